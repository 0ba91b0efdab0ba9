import JvmDerived
import JvmDerived.Pilot.@@N@@Statement
import JvmDerived.Pilot.@@N@@Code
set_option linter.unusedVariables false
set_option linter.unusedSimpArgs false
namespace Jvm.RoadKit
open Sem ClassFile Op Lib Jvm.Stand Jvm.Free Jvm.LawKit
section New
variable {p : Program} {l : Launch} {e : Env} {R : Room} {s : State} {m : MethodId} {args : Array Value} {below : List Frame} {meth : Method} {c : Code} {T : State} {locs : List Loc} {cells slots : Nat}
theorem retI (X : Stand p l e R s m args below meth c T locs cells slots) (hx : p.tables.exec = Jvm.exec) {pc : Nat} {Ls : Array Slot} {z : Int32} {rest : List Value} (hret : meth.sig.returnType = some .int) (hd : decode c.code pc = .ok (.ireturn, 1)) {fs : List Frame}
    (hl : ∀ (f : JFrame) (acts : List Action), f.method = m → f.locked = none → f.entered = [] → (doReturn e (T.setTop f) acts (some (.int z))).1 = T.setFrames fs) : Steps p.tables e below (T.setTop (mkF m pc Ls (.int z :: rest))) (T.setFrames fs) := by
  have hm' : T.vm.method? m = some meth := X.method'
  have hn : narrow .int (.int z) = .int z := rfl
  show Steps p.tables e below (T.setTop { method := m, pc := pc, locals := Ls, stack := _ :: rest, locked := none }) _
  jvm_step X.here [X.here.top, hx, hd, hm', hret, hn]
  first | (intro acts; rw [hl _ acts rfl rfl rfl]) | rw [hl _ _ rfl rfl rfl]
  exact Steps.refl _
end New
end Jvm.RoadKit
namespace Jvm.Pilot.@@N@@
open Jvm Jvm.ClassFile Sem Op Lib Jvm.Free Jvm.Stand Jvm.LawKit Jvm.RoadKit Bundle Jvm.Pilot.@@N@@.Jvm.D
/-- the run from a frame of this method ends in a return with Q -/
def Go (p : Program) (e : Env) (s : State) (below : List Frame) (kc ks : Nat) (Q : Option Value → Heap → List Loc → Prop) (T : State) (f : JFrame) : Prop :=
  ∃ s₂ o, Steps p.tables e below (T.setTop f) s₂ ∧ s₂.status = .running ∧ Ended s₂ below o ∧ ∃ v L, o = .returned v ∧ Q v s₂.heap L ∧ FrameEnd s o s₂ L kc ks
/-- what is known of the method that runs -/
def Cx (p : Program) (s : State) (m : MethodId) (meth : Method) (c : Code) (Z : State) (own nm : String) (code : ByteArray) (maxL : Nat) (ret : Option FieldType) : Prop :=
  p.tables.exec = Jvm.exec ∧ Z.Warmed39 s.vm ∧ c.code = code ∧ c.maxLocals = maxL ∧ s.vm.findClass own = some m.cls ∧ meth.name = nm ∧ meth.sig.returnType = ret ∧ meth.locks = false
/-- a contract -/
def Ctr (l : Launch) (Z : State) (y : MethodName) (bytes : ByteArray) (maxL : Nat) (ret : Option FieldType) (ws : List Jvm.Cond) (rm : Room) (kc ks : Nat) (as : Array Value) (h : Heap) (Q : Option Value → Heap → List Loc → Prop) : Prop :=
  MetFree l y (head1 (Jvm.Cond.code y bytes maxL ret :: ws) rm) (fun a U => a = as ∧ Z.Warmed39 U.vm ∧ U.heap = h) (fun _ _ _ _ _ => True) (fun _ U o U' => ∃ v L, o = .returned v ∧ Q v U'.heap L ∧ FrameEnd U o U' L kc ks)
def bi (P : Prop) [Decidable P] : Int32 := if P then 1 else 0
theorem bi_t {P : Prop} [Decidable P] (h : P) : bi P = 1 := if_pos h
theorem bi_f {P : Prop} [Decidable P] (h : ¬ P) : bi P = 0 := if_neg h
theorem bi_n {P : Prop} [Decidable P] (h : P) : ¬ bi P = 0 := by rw [bi_t h]; decide
theorem bi_1 {P : Prop} [Decidable P] : bi P = 1 ↔ P := by unfold bi; split <;> simp_all
theorem bi_0 {P : Prop} [Decidable P] : bi P = 0 ↔ ¬ P := by unfold bi; split <;> simp_all
theorem bi_eq {P P' : Prop} [Decidable P] [Decidable P'] : bi P = bi P' ↔ (P ↔ P') := by unfold bi; split <;> split <;> simp_all
theorem bi_congr {P P' : Prop} [Decidable P] [Decidable P'] (h : P ↔ P') : bi P = bi P' := bi_eq.mpr h
theorem bi_fits {P : Prop} [Decidable P] : fits .boolean (.int (bi P)) = true := by unfold bi; split <;> rfl
theorem bi_nar {P : Prop} [Decidable P] : nar .boolean (bi P) = bi P := by unfold bi; split <;> rfl
section Own
variable {p : Program} {l : Launch} {e : Env} {R : Room} {s : State} {m : MethodId} {args : Array Value} {below : List Frame} {meth : Method} {c : Code} {T : State} {locs : List Loc} {cells slots kc ks : Nat} {Q : Option Value → Heap → List Loc → Prop} {Z : State} {a0 : Array Value} {h : Heap}
theorem Go.step {T' : State} {f f' : JFrame} (st : ∀ t, Steps p.tables e below (T'.setTop f') t → Steps p.tables e below (T.setTop f) t) (k : Go p e s below kc ks Q T' f') : Go p e s below kc ks Q T f := by
  obtain ⟨s₂, o, h1, r⟩ := k; exact ⟨s₂, o, st _ h1, r⟩
theorem Go.mono {Q' : Option Value → Heap → List Loc → Prop} {f : JFrame} (k : Go p e s below kc ks Q T f) (h : ∀ v h L, Q v h L → Q' v h L) : Go p e s below kc ks Q' T f := by
  obtain ⟨s₂, o, h1, h2, h3, v, L, h4, h5, h6⟩ := k; exact ⟨s₂, o, h1, h2, h3, v, L, h4, h _ _ _ h5, h6⟩
theorem Ctr.mk {y : MethodName} {bytes : ByteArray} {maxL : Nat} {ret : Option FieldType} {ws : List Jvm.Cond} {rm : Room} {as : Array Value} (hp : plainFor y = true)
    (hgo : ∀ (p : Program) (e : Env) (s : State) (m : MethodId) (below : List Frame) (meth : Method) (c : Code) (s₁ : State), Stand p l e rm s m as below meth c s₁ [] 0 0 → Cx p s m meth c Z y.cls y.name bytes maxL ret → s₁.heap = h → Go p e s below kc ks Q s₁ (entryFrame m as maxL)) :
    Ctr l Z y bytes maxL ret ws rm kc ks as h Q := by
  refine MetFree.of_bodySF hp hisR ?_
  intro p e s m args below meth c s₁ Bd hml0 hP hK
  obtain ⟨rfl, hZ, hh⟩ := hP
  exact hgo p e s m below meth c s₁ (Stand.of_body Bd) ⟨Bd.exec, hZ, Bd.bytes, hml0, findClass_of_methodNamed Bd.named, (name_of_methodNamed Bd.named Bd.method).1, Bd.returns, Bd.notSynchronized⟩ (by rw [← hh, Bd.state]; rfl)
theorem go_cast {f f' : JFrame} (q : f = f') (k : Go p e s below kc ks Q T f') : Go p e s below kc ks Q T f := q ▸ k
theorem go_retI (X : Stand p l e R s m args below meth c T locs cells slots) (hx : p.tables.exec = Jvm.exec) (hret : meth.sig.returnType = some .int) (hlk : meth.locks = false) {pc : Nat} {Ls : Array Slot} {z : Int32} {rest : List Value} (hd : decode c.code pc = .ok (.ireturn, 1))
    (hQ : Q (some (.int z)) T.heap locs) (hc : cells ≤ kc) (hs : slots ≤ ks) : Go p e s below kc ks Q T (mkF m pc Ls (.int z :: rest)) := by
  obtain ⟨fs, hr, hrun, hended, hW, hsame⟩ := X.leave (v := some (.int z)) (fun h => by rw [hret] at h; cases h) hlk
  exact ⟨_, _, retI X hx hret hd hr, hrun, hended, _, _, rfl, hQ, ⟨_, rfl⟩, hW, hsame.mono hc hs⟩
theorem go_retN (X : Stand p l e R s m args below meth c T locs cells slots) (hx : p.tables.exec = Jvm.exec) {t : FieldType} (hret : meth.sig.returnType = some t) (ht : t = .boolean ∨ t = .byte ∨ t = .char ∨ t = .short) (hlk : meth.locks = false) {pc : Nat} {Ls : Array Slot} {z w : Int32} {rest : List Value} (hd : decode c.code pc = .ok (.ireturn, 1))
    (hz : nar t z = w) (hQ : Q (some (.int w)) T.heap locs) (hc : cells ≤ kc) (hs : slots ≤ ks) : Go p e s below kc ks Q T (mkF m pc Ls (.int z :: rest)) := by
  subst hz
  obtain ⟨fs, hr, hrun, hended, hW, hsame⟩ := X.leave (v := some (.int (nar t z))) (fun h => by rw [hret] at h; cases h) hlk
  exact ⟨_, _, retN X hx hret ht hd hr, hrun, hended, _, _, rfl, hQ, ⟨_, rfl⟩, hW, hsame.mono hc hs⟩
theorem go_retJ (X : Stand p l e R s m args below meth c T locs cells slots) (hx : p.tables.exec = Jvm.exec) (hret : meth.sig.returnType = some .long) (hlk : meth.locks = false) {pc : Nat} {Ls : Array Slot} {z : Int64} (hd : decode c.code pc = .ok (.lreturn, 1))
    (hQ : Q (some (.long z)) T.heap locs) (hc : cells ≤ kc) (hs : slots ≤ ks) : Go p e s below kc ks Q T (mkF m pc Ls [.long z]) := by
  obtain ⟨fs, hr, hrun, hended, hW, hsame⟩ := X.leave (v := some (.long z)) (fun h => by rw [hret] at h; cases h) hlk
  exact ⟨_, _, X.lreturnOut hx hret hd hr, hrun, hended, _, _, rfl, hQ, ⟨_, rfl⟩, hW, hsame.mono hc hs⟩
theorem go_retA (X : Stand p l e R s m args below meth c T locs cells slots) (hx : p.tables.exec = Jvm.exec) {t : FieldType} (hret : meth.sig.returnType = some t) (ht : t.isReference = true) (hlk : meth.locks = false) {pc : Nat} {Ls : Array Slot} {w : Value} {rest : List Value} (hw : w.isRef = true) (hd : decode c.code pc = .ok (.areturn, 1))
    (hQ : Q (some w) T.heap locs) (hc : cells ≤ kc) (hs : slots ≤ ks) : Go p e s below kc ks Q T (mkF m pc Ls (w :: rest)) := by
  obtain ⟨fs, hr, hrun, hended, hW, hsame⟩ := X.leave (v := some w) (fun h => by rw [hret] at h; cases h) hlk
  have hn : narrow t w = w := by cases t <;> first | rfl | simp [FieldType.isReference] at ht
  exact ⟨_, _, retOut X hx hret hn (Or.inr (Or.inr (Or.inr (Or.inr ⟨rfl, ht, hw⟩)))) hd hr, hrun, hended, _, _, rfl, hQ, ⟨_, rfl⟩, hW, hsame.mono hc hs⟩
theorem go_ret (X : Stand p l e R s m args below meth c T locs cells slots) (hx : p.tables.exec = Jvm.exec) (hret : meth.sig.returnType = none) (hlk : meth.locks = false) {pc : Nat} {Ls : Array Slot} (hd : decode c.code pc = .ok (.return_, 1))
    (hQ : Q none T.heap locs) (hc : cells ≤ kc) (hs : slots ≤ ks) : Go p e s below kc ks Q T (mkF m pc Ls []) := by
  obtain ⟨fs, hr, hrun, hended, hW, hsame⟩ := X.leave (v := none) (fun _ => rfl) hlk
  exact ⟨_, _, X.returnOut hx hret hd hr, hrun, hended, _, _, rfl, hQ, ⟨_, rfl⟩, hW, hsame.mono hc hs⟩
/-! calls by a contract -/
section Calls
variable {own : String} {index : Nat} {y : MethodName} {bytes : ByteArray} {maxL : Nat} {ret r : Option FieldType} {rm : Room} {Qc : Option Value → Heap → List Loc → Prop} {argsL rest : List Value} {ps : List FieldType} {pc W : Nat} {Ls : Array Slot} {a : Addr}
theorem c_static (X : Stand p l e R s m args below meth c T locs cells slots) (hx : p.tables.exec = Jvm.exec) (hZ : Z.Warmed39 s.vm) (hown : s.vm.findClass own = some m.cls)
    (w1 : (Jvm.Cond.methodLink own index y).before a0 Z = true) (w2 : (Jvm.Cond.static y).before a0 Z = true) (w3 : (Jvm.Cond.initialized y.cls).before a0 Z = true) (w4 : (Jvm.Cond.code y bytes maxL ret).before a0 Z = true) (hy : y.cls ≠ "java/lang/invoke/MethodHandle" ∧ y.cls ≠ "java/lang/invoke/VarHandle")
    (hC : Ctr l Z y bytes maxL ret [] rm rm.cells rm.slots argsL.toArray h Qc) (eT : T.heap = h) (hpd : parseMethodDescriptor y.desc = some ⟨ps, r⟩) (hlen : argsL.length = ps.length) (hsz : Ls.size = c.maxLocals) (hW : 2 * 0 + (rest.map fun v => v.category).sum ≤ W)
    (hf : rm.frames + 1 ≤ R.frames) (hl : W + (maxL + 11) + rm.locals ≤ R.locals) (hc : cells + rm.cells ≤ R.cells) (hs : slots + rm.slots ≤ R.slots) (hd : decode c.code pc = .ok (.invokestatic index, 3)) :
    ∃ (v : Option Value) (T' : State) (L : List Loc), Stand p l e R s m args below meth c T' (locs ++ L) (cells + rm.cells) (slots + rm.slots) ∧ Qc v T'.heap L ∧
      ∀ t, Steps p.tables e below (T'.setTop (mkF m (pc + 3) Ls (v.toList ++ rest))) t → Steps p.tables e below (T.setTop (mkF m pc Ls (argsL.reverse ++ rest))) t := by
  obtain ⟨v, _, ⟨T', L', k', n'⟩, -, X', ⟨L, hQ, rfl, rfl, rfl⟩, st⟩ := Jvm.LawKit.callS X hx (y := y) hown (mvT hZ w1) (mvT hZ w2) (mvT hZ w3) (mvT hZ w4) hy (backOf (W := W) hC hZ w4 w3 hf hl) (g := mkF m pc Ls (argsL.reverse ++ rest)) rfl hsz (argsL := argsL) (rest := rest) (lenOf hpd hlen) rfl hW hd (fun _ _ => ⟨rfl, eT, hc, hs⟩)
  exact ⟨v, T', L, X', hQ, st⟩
theorem c_init (X : Stand p l e R s m args below meth c T locs cells slots) (hx : p.tables.exec = Jvm.exec) (hZ : Z.Warmed39 s.vm) (hown : s.vm.findClass own = some m.cls)
    (w1 : (Jvm.Cond.methodLink own index y).before a0 Z = true) (w2 : (Jvm.Cond.instanceMethod y).before a0 Z = true) (w3 : (Jvm.Cond.initialized y.cls).before a0 Z = true) (w4 : (Jvm.Cond.code y bytes maxL none).before a0 Z = true) (hn : y.name = "<init>") (hy : y.cls ≠ "java/lang/invoke/MethodHandle" ∧ y.cls ≠ "java/lang/invoke/VarHandle")
    (hC : Ctr l Z y bytes maxL none [] rm rm.cells rm.slots (.ref a :: argsL).toArray h Qc) (eT : T.heap = h) (hpd : parseMethodDescriptor y.desc = some ⟨ps, r⟩) (hlen : argsL.length = ps.length) (hsz : Ls.size = c.maxLocals) (hW : 2 * 0 + (rest.map fun v => v.category).sum ≤ W)
    (hf : rm.frames + 1 ≤ R.frames) (hl : W + (maxL + 11) + rm.locals ≤ R.locals) (hc : cells + rm.cells ≤ R.cells) (hs : slots + rm.slots ≤ R.slots) (hd : decode c.code pc = .ok (.invokespecial index, 3)) :
    ∃ (v : Option Value) (T' : State) (L : List Loc), Stand p l e R s m args below meth c T' (locs ++ L) (cells + rm.cells) (slots + rm.slots) ∧ Qc v T'.heap L ∧
      ∀ t, Steps p.tables e below (T'.setTop (mkF m (pc + 3) Ls (v.toList ++ rest))) t → Steps p.tables e below (T.setTop (mkF m pc Ls (argsL.reverse ++ .ref a :: rest))) t := by
  obtain ⟨v, _, ⟨T', L', k', n'⟩, -, X', ⟨L, hQ, rfl, rfl, rfl⟩, st⟩ := X.specialBack hx (y := y) hn hown (mvT hZ w1) (mvT hZ w2) (mvT hZ w4) hy (backOf (W := W) hC hZ w4 w3 hf hl) (g := mkF m pc Ls (argsL.reverse ++ .ref a :: rest)) rfl hsz (Steps.refl _) (a := a) (argsL := argsL) (rest := rest) (lenOf hpd hlen) rfl hW hd (fun _ _ => ⟨rfl, eT, hc, hs⟩)
  exact ⟨v, T', L, X', hQ, fun t k => st.trans k⟩
theorem c_virt {y' : MethodName} {C : String} (X : Stand p l e R s m args below meth c T locs cells slots) (hx : p.tables.exec = Jvm.exec) (hZ : Z.Warmed39 s.vm) (hown : s.vm.findClass own = some m.cls)
    (w1 : (Jvm.Cond.methodLink own index y').before a0 Z = true) (wd : (Jvm.Cond.declares y').before a0 Z = true) (nf : NotFace s y') (ws : (Jvm.Cond.selects C y' y).before a0 Z = true) (w2 : (Jvm.Cond.instanceMethod y).before a0 Z = true) (w3 : (Jvm.Cond.initialized y.cls).before a0 Z = true) (w4 : (Jvm.Cond.code y bytes maxL ret).before a0 Z = true) (hy : y'.cls ≠ "java/lang/invoke/MethodHandle" ∧ y'.cls ≠ "java/lang/invoke/VarHandle")
    (hC : Ctr l Z y bytes maxL ret [] rm rm.cells rm.slots (.ref a :: argsL).toArray h Qc) (eT : T.heap = h) (E : Exa Z h a C) (hpd : parseMethodDescriptor y'.desc = some ⟨ps, r⟩) (hlen : argsL.length = ps.length) (hsz : Ls.size = c.maxLocals) (hW : 2 * 0 + (rest.map fun v => v.category).sum ≤ W)
    (hf : rm.frames + 1 ≤ R.frames) (hl : W + (maxL + 11) + rm.locals ≤ R.locals) (hc : cells + rm.cells ≤ R.cells) (hs : slots + rm.slots ≤ R.slots) (hd : decode c.code pc = .ok (.invokevirtual index, 3)) :
    ∃ (v : Option Value) (T' : State) (L : List Loc), Stand p l e R s m args below meth c T' (locs ++ L) (cells + rm.cells) (slots + rm.slots) ∧ Qc v T'.heap L ∧
      ∀ t, Steps p.tables e below (T'.setTop (mkF m (pc + 3) Ls (v.toList ++ rest))) t → Steps p.tables e below (T.setTop (mkF m pc Ls (argsL.reverse ++ .ref a :: rest))) t := by
  obtain ⟨cq, kq, qa, qb, qc⟩ := isOf hZ eT E
  obtain ⟨v, _, ⟨T', L', k', n'⟩, -, X', ⟨L, hQ, rfl, rfl, rfl⟩, st⟩ := X.virtualBack hx (y := y') (z := y) hown (mvT hZ w1) (mvT hZ wd) nf (mvT hZ ws) (mvT hZ w2) hy (backOf (W := W) hC hZ w4 w3 hf hl) qa qc (g := mkF m pc Ls (argsL.reverse ++ .ref a :: rest)) rfl hsz (Steps.refl _) (argsL := argsL) (rest := rest) (lenOf hpd hlen) rfl hW hd (fun _ _ => ⟨rfl, eT, hc, hs⟩)
  exact ⟨v, T', L, X', hQ, fun t k => st.trans k⟩
theorem own_nf {y' z : MethodName} {C : String} {as : Array Value} (ws : (Jvm.Cond.selects C y' z).before as s = true) (h : z.cls = y.cls) : NotFace s y := fun r0 h0 => by
  obtain ⟨_, _, m2, -, -, q3, -, kP, hkP, hkPi⟩ := Cond.selects_spec ws
  have e1 := findClass_of_methodNamed q3
  rw [h] at e1
  have e2 : m2.cls = r0.cls := Option.some.inj (e1.symm.trans (findClass_of_methodNamed h0))
  exact ⟨kP, e2 ▸ hkP, hkPi⟩
/-- a private method of an object, by invokevirtual: its class isn't an interface (nf) -/
theorem c_priv {C : String} (X : Stand p l e R s m args below meth c T locs cells slots) (hx : p.tables.exec = Jvm.exec) (hZ : Z.Warmed39 s.vm) (hown : s.vm.findClass own = some m.cls)
    (w1 : (Jvm.Cond.methodLink own index y).before a0 Z = true) (w2 : (Jvm.Cond.instanceMethod y).before a0 Z = true) (nf : NotFace s y) (wp : (Jvm.Cond.privateMethod y).before a0 Z = true) (w3 : (Jvm.Cond.initialized y.cls).before a0 Z = true) (w4 : (Jvm.Cond.code y bytes maxL ret).before a0 Z = true) (hy : y.cls ≠ "java/lang/invoke/MethodHandle" ∧ y.cls ≠ "java/lang/invoke/VarHandle")
    (hC : Ctr l Z y bytes maxL ret [] rm rm.cells rm.slots (.ref a :: argsL).toArray h Qc) (eT : T.heap = h) (E : Exa Z h a C) (hpd : parseMethodDescriptor y.desc = some ⟨ps, r⟩) (hlen : argsL.length = ps.length) (hsz : Ls.size = c.maxLocals) (hW : 2 * 0 + (rest.map fun v => v.category).sum ≤ W)
    (hf : rm.frames + 1 ≤ R.frames) (hl : W + (maxL + 11) + rm.locals ≤ R.locals) (hc : cells + rm.cells ≤ R.cells) (hs : slots + rm.slots ≤ R.slots) (hd : decode c.code pc = .ok (.invokevirtual index, 3)) :
    ∃ (v : Option Value) (T' : State) (L : List Loc), Stand p l e R s m args below meth c T' (locs ++ L) (cells + rm.cells) (slots + rm.slots) ∧ Qc v T'.heap L ∧
      ∀ t, Steps p.tables e below (T'.setTop (mkF m (pc + 3) Ls (v.toList ++ rest))) t → Steps p.tables e below (T.setTop (mkF m pc Ls (argsL.reverse ++ .ref a :: rest))) t := by
  obtain ⟨cq, qa, qb⟩ := E.cell
  obtain ⟨mk, methM, hnamed, hmethM, hstM, habM⟩ := Cond.instanceMethod_spec (mvT (args := args) hZ w2)
  obtain ⟨methM', cM, hmethM', -, -, -, -, -, -, hsigM⟩ := Cond.code_spec hnamed (mvT (args := args) hZ w4)
  cases hmethM.symm.trans hmethM'
  obtain ⟨kP, hkP, hkPi⟩ := nf mk hnamed
  have hsel : selectMethod e.platform s.vm cq.cls mk = .method mk := selectMethod_private hmethM ((Cond.privateMethod_at (mvP hZ wp (args := #[]))) mk methM hnamed hmethM)
  obtain ⟨vm₁, X₁, hst⟩ := X.invokevirtual hx hown (mvT hZ w1) hnamed hmethM hstM hkP hkPi hy (a := a) (cell := cq) (by rw [eT]; exact qa) qb hsel hmethM habM hkP hkPi (g := mkF m pc Ls (argsL.reverse ++ .ref a :: rest)) rfl (argsL := argsL) (rest := rest) (lenOf hpd hlen _ hsigM) rfl hd
  obtain ⟨v, ⟨T', L', k', n'⟩, X', ⟨L, hQ, rfl, rfl, rfl⟩, hgo⟩ := (backOf (W := W) (len := 3) hC hZ w4 w3 hf hl) m meth c ⟨T.setVm vm₁, locs, cells, slots⟩ (mkF m pc Ls rest) (.invokevirtual index) mk (.ref a :: argsL).toArray X₁ rfl hsz hd hW (X₁.named hnamed) ⟨rfl, eT, hc, hs⟩
  exact ⟨v, T', L, X', hQ, fun t k => ((hst _ fun acts => by rw [doInvoke_state]; exact Steps.refl _).trans hgo).trans k⟩
/-- invokevirtual of a method that a class above the one that the entry names declares -/
theorem c_virtUp {y' : MethodName} {C owner : String} (X : Stand p l e R s m args below meth c T locs cells slots) (hx : p.tables.exec = Jvm.exec) (hZ : Z.Warmed39 s.vm) (hown : s.vm.findClass own = some m.cls)
    (w1 : (Jvm.Cond.methodLink own index y').before a0 Z = true) (wm : (Jvm.Cond.sameMethod y'.cls owner y'.name y'.desc).before a0 Z = true) (wd : (Jvm.Cond.declares ⟨owner, y'.name, y'.desc⟩).before a0 Z = true) (ws : (Jvm.Cond.selects C y' y).before a0 Z = true) (w2 : (Jvm.Cond.instanceMethod y).before a0 Z = true) (w3 : (Jvm.Cond.initialized y.cls).before a0 Z = true) (w4 : (Jvm.Cond.code y bytes maxL ret).before a0 Z = true) (hy : owner ≠ "java/lang/invoke/MethodHandle" ∧ owner ≠ "java/lang/invoke/VarHandle")
    (hC : Ctr l Z y bytes maxL ret [] rm rm.cells rm.slots (.ref a :: argsL).toArray h Qc) (eT : T.heap = h) (E : Exa Z h a C) (hpd : parseMethodDescriptor y'.desc = some ⟨ps, r⟩) (hlen : argsL.length = ps.length) (hsz : Ls.size = c.maxLocals) (hW : 2 * 0 + (rest.map fun v => v.category).sum ≤ W)
    (hf : rm.frames + 1 ≤ R.frames) (hl : W + (maxL + 11) + rm.locals ≤ R.locals) (hc : cells + rm.cells ≤ R.cells) (hs : slots + rm.slots ≤ R.slots) (hd : decode c.code pc = .ok (.invokevirtual index, 3)) :
    ∃ (v : Option Value) (T' : State) (L : List Loc), Stand p l e R s m args below meth c T' (locs ++ L) (cells + rm.cells) (slots + rm.slots) ∧ Qc v T'.heap L ∧
      ∀ t, Steps p.tables e below (T'.setTop (mkF m (pc + 3) Ls (v.toList ++ rest))) t → Steps p.tables e below (T.setTop (mkF m pc Ls (argsL.reverse ++ .ref a :: rest))) t := by
  obtain ⟨cq, kq, qa, qb, qc⟩ := isOf hZ eT E
  obtain ⟨v, _, ⟨T', L', k', n'⟩, -, X', ⟨L, hQ, rfl, rfl, rfl⟩, st⟩ := X.virtualBackUp hx (x := y') (y := y) hown (mvT hZ w1) (mvT hZ wm) (mvT hZ wd) hy (mvT hZ ws) (mvT hZ w2) (backOf (W := W) hC hZ w4 w3 hf hl) qa qc (g := mkF m pc Ls (argsL.reverse ++ .ref a :: rest)) rfl hsz (Steps.refl _) (argsL := argsL) (rest := rest) (lenOf hpd hlen) rfl hW hd (fun _ _ => ⟨rfl, eT, hc, hs⟩)
  exact ⟨v, T', L, X', hQ, fun t k => st.trans k⟩
end Calls
end Own
/-! arrays by a function of the place -/
def upd (f : Nat → Value) (k : Nat) (v : Value) : Nat → Value := fun i => if i = k then v else f i
def lst (L : List Value) : Nat → Value := fun i => L.getD i .null
theorem upd_eq {f : Nat → Value} {k : Nat} {v : Value} : upd f k v k = v := if_pos rfl
theorem upd_ne {f : Nat → Value} {k i : Nat} {v : Value} (h : i ≠ k) : upd f k v i = f i := if_neg h
def AV (Z : State) (h : Heap) (a : Addr) (ty : FieldType) (n : Nat) (f : Nat → Value) : Prop := ∃ c : Cell, Arr Z h a c ty ∧ c.slots.size = n ∧ n < 2147483648 ∧ ∀ i, i < n → c.slots[i]? = some (f i)
section Arrays
variable {Z : State} {h h' : Heap} {a b : Addr} {ty : FieldType} {n k : Nat} {f g : Nat → Value} {v w : Value} {j : Int32} {ws : List Addr} {sl : Nat}
theorem AV.lt (A : AV Z h a ty n f) : a < h.size := by obtain ⟨c, A, -⟩ := A; exact A.lt
theorem AV.ext (A : AV Z h a ty n f) (E : Ext h h') : AV Z h' a ty n f := by obtain ⟨c, A, r⟩ := A; exact ⟨c, A.ext E, r⟩
theorem AV.other (A : AV Z h b ty n f) (W : Wr h h' a sl v) (q : b ≠ a) : AV Z h' b ty n f := by obtain ⟨c, A, r⟩ := A; exact ⟨c, A.other W q, r⟩
theorem AV.keep (A : AV Z h a ty n f) (K : Keep h h' ws) (q : a ∉ ws) : AV Z h' a ty n f := by obtain ⟨c, A, r⟩ := A; exact ⟨c, ⟨K.2.1 a c A.1 q, A.2⟩, r⟩
theorem AV.congr (A : AV Z h a ty n f) (q : ∀ i, i < n → f i = g i) : AV Z h a ty n g := by obtain ⟨c, A, r1, r2, r3⟩ := A; exact ⟨c, A, r1, r2, fun i hi => by rw [r3 i hi, q i hi]⟩
theorem AV.bound (A : AV Z h a ty n f) : n < 2147483648 := by obtain ⟨c, A, r1, r2, r3⟩ := A; exact r2
theorem clamp_of (hj : j.toInt = (k : Int)) : j.toNatClampNeg = k := by show j.toInt.toNat = k; rw [hj]; rfl
theorem in_of {c : Cell} (hj : j.toInt = (k : Int)) (hs : c.slots.size = n) (hk : k < n) : ¬ (j < 0 ∨ c.slots.size ≤ j.toNatClampNeg) := by
  rw [clamp_of hj, hs, Int32.lt_iff_toInt_lt, hj]; simp only [Int32.reduceToInt]; omega
theorem AV.new {cA : ClassId} {z : Int32} (A : Arr Z h a (newA cA ty z) ty) (hz : z.toInt = (n : Int)) : AV Z h a ty n (fun _ => defaultValue ty) := by
  have q := clamp_of hz
  have hb := Int32.toInt_lt z
  refine ⟨_, A, by rw [sz_new]; exact q, by omega, fun i hi => ?_⟩
  have hi' : i < z.toNatClampNeg := by rw [q]; exact hi
  simp [newA, hi']
theorem AV.at (A : AV Z h a ty n f) (hj : j.toInt = (k : Int)) (hk : k < n) : ∃ cl : Cell, Arr Z h a cl ty ∧ ¬ (j < 0 ∨ cl.slots.size ≤ j.toNatClampNeg) ∧ cl.slots[j.toNatClampNeg]? = some (f k) := by
  obtain ⟨c, A, r1, r2, r3⟩ := A
  exact ⟨c, A, in_of hj r1 hk, by rw [clamp_of hj]; exact r3 k hk⟩
theorem AV.set (A : AV Z h a ty n f) (hj : j.toInt = (k : Int)) (hk : k < n) (W : Wr h h' a j.toNatClampNeg v) : AV Z h' a ty n (upd f k v) := by
  obtain ⟨c, A, r1, r2, r3⟩ := A
  refine ⟨_, A.same W, by rw [sz_set]; exact r1, r2, fun i hi => ?_⟩
  rw [clamp_of hj]
  by_cases e : i = k
  · subst e; simp [Cell.setSlot, r1, hi, upd]
  · rw [upd_ne e, ← r3 i hi]; exact Array.getElem?_setIfInBounds_ne (Ne.symm e)
theorem AV.setL {L L' : List Value} (A : AV Z h a ty n (lst L)) (hj : j.toInt = (k : Int)) (hk : k < n) (W : Wr h h' a j.toNatClampNeg v) (hl : k < L.length) (e : L.set k v = L') : AV Z h' a ty n (lst L') := by
  subst e
  refine (A.set hj hk W).congr fun i hi => ?_
  by_cases q : i = k
  · subst q; simp [upd, lst, List.getD_eq_getElem?_getD, hl]
  · rw [upd_ne q]; simp [lst, List.getD_eq_getElem?_getD, List.getElem?_set_ne (Ne.symm q)]
theorem AV.newL {L : List Value} (A : AV Z h a ty n (fun _ => v)) (e : L = List.replicate n v) : AV Z h a ty n (lst L) := by
  subst e; refine A.congr fun i hi => ?_
  simp [lst, List.getD_eq_getElem?_getD, List.getElem?_replicate, hi]
theorem AV.len (A : AV Z h a ty n f) : ∃ cl : Cell, Arr Z h a cl ty ∧ cl.slots.size.toInt32 = Int32.ofNat n := by
  obtain ⟨c, A, r1, r2, r3⟩ := A; exact ⟨c, A, by rw [r1]⟩
theorem own_cls {cA : ClassId} {z : Int32} {ad : String} (A : Arr Z h a (newA cA ty z) ty) (E : Exa Z h a ad) : Z.vm.findClass ad = some cA := by
  obtain ⟨cell, k, e1, e2, -⟩ := E
  cases A.1.symm.trans e1
  exact e2
theorem own_sto {cA : ClassId} {cl : Cell} {ad C : String} {y : Addr} (A : Arr Z h a cl ty) (E : Exa Z h a ad) (hA : Z.vm.findClass ad = some cA) (O : Ovr Z cA C) (I : Ins Z h y C true) : Sto Z h a (.ref y) := by
  obtain ⟨cell, k, e1, e2, -⟩ := E
  cases A.1.symm.trans e1
  have q : cl.cls = cA := Option.some.inj (e2.symm.trans hA)
  exact Sto.of A (q ▸ O) I
theorem own_sta_keep {C n' d : String} (F : Sta Z h C n' d v) (K : Keep h h' []) : Sta Z h' C n' d v := by
  obtain ⟨cf, i, k, f, st, cell, h1, h2, h3, h4, h5, h6, h7⟩ := F
  exact ⟨cf, i, k, f, st, cell, h1, h2, h3, h4, K.2.1 _ _ h5 (fun q => nomatch q), h6, h7⟩
end Arrays
section ASteps
variable {p : Program} {l : Launch} {e : Env} {R : Room} {s : State} {m : MethodId} {args : Array Value} {below : List Frame} {meth : Method} {c : Code} {T : State} {locs : List Loc} {cells slots : Nat} {Z : State} {a0 : Array Value} {h : Heap} {a : Addr} {n k pc : Nat} {f : Nat → Value} {j : Int32} {Ls : Array Slot} {rest : List Value}
theorem a_iload (X : Stand p l e R s m args below meth c T locs cells slots) (hx : p.tables.exec = Jvm.exec) (hZ : Z.Warmed39 s.vm) (eT : T.heap = h) (A : AV Z h a .int n f) (hj : j.toInt = (k : Int)) (hk : k < n) {x : Int32} (hv : f k = .int x) (hd : decode c.code pc = .ok (.iaload, 1)) :
    ∀ t, Steps p.tables e below (T.setTop (mkF m (pc + 1) Ls (.int x :: rest))) t → Steps p.tables e below (T.setTop (mkF m pc Ls (.int j :: .ref a :: rest))) t := by
  obtain ⟨cl, A, hin, hat⟩ := A.at hj hk
  rw [hv] at hat
  exact X.iaload hx (j := j) (v := .int x) (by rw [eT]; exact A.1) (State.isArrayOf_alike hZ.alike A.2.1) A.2.2 hin hat (g := mkF m pc Ls (.int j :: .ref a :: rest)) rfl rfl hd
theorem a_cload (X : Stand p l e R s m args below meth c T locs cells slots) (hx : p.tables.exec = Jvm.exec) (hZ : Z.Warmed39 s.vm) (eT : T.heap = h) (A : AV Z h a .char n f) (hj : j.toInt = (k : Int)) (hk : k < n) {x : Int32} (hv : f k = .int x) (hd : decode c.code pc = .ok (.caload, 1)) :
    ∀ t, Steps p.tables e below (T.setTop (mkF m (pc + 1) Ls (.int x :: rest))) t → Steps p.tables e below (T.setTop (mkF m pc Ls (.int j :: .ref a :: rest))) t := by
  obtain ⟨cl, A, hin, hat⟩ := A.at hj hk
  rw [hv] at hat
  exact X.caload hx (j := j) (v := .int x) (by rw [eT]; exact A.1) (State.isArrayOf_alike hZ.alike A.2.1) A.2.2 hin hat (g := mkF m pc Ls (.int j :: .ref a :: rest)) rfl rfl hd
theorem a_bload (X : Stand p l e R s m args below meth c T locs cells slots) (hx : p.tables.exec = Jvm.exec) (hZ : Z.Warmed39 s.vm) (eT : T.heap = h) (A : AV Z h a .byte n f) (hj : j.toInt = (k : Int)) (hk : k < n) {x : Int32} (hv : f k = .int x) (hd : decode c.code pc = .ok (.baload, 1)) :
    ∀ t, Steps p.tables e below (T.setTop (mkF m (pc + 1) Ls (.int x :: rest))) t → Steps p.tables e below (T.setTop (mkF m pc Ls (.int j :: .ref a :: rest))) t := by
  obtain ⟨cl, A, hin, hat⟩ := A.at hj hk
  rw [hv] at hat
  exact X.baloadBytes hx (j := j) (v := .int x) (by rw [eT]; exact A.1) (State.isArrayOf_alike hZ.alike A.2.1) A.2.2 hin hat (g := mkF m pc Ls (.int j :: .ref a :: rest)) rfl rfl hd
theorem a_jload (X : Stand p l e R s m args below meth c T locs cells slots) (hx : p.tables.exec = Jvm.exec) (hZ : Z.Warmed39 s.vm) (eT : T.heap = h) (A : AV Z h a .long n f) (hj : j.toInt = (k : Int)) (hk : k < n) {x : Int64} (hv : f k = .long x) (hd : decode c.code pc = .ok (.laload, 1)) :
    ∀ t, Steps p.tables e below (T.setTop (mkF m (pc + 1) Ls (.long x :: rest))) t → Steps p.tables e below (T.setTop (mkF m pc Ls (.int j :: .ref a :: rest))) t := by
  obtain ⟨cl, A, hin, hat⟩ := A.at hj hk
  rw [hv] at hat
  exact X.laload hx (j := j) (v := .long x) (by rw [eT]; exact A.1) (State.isArrayOf_alike hZ.alike A.2.1) A.2.2 hin hat (g := mkF m pc Ls (.int j :: .ref a :: rest)) rfl rfl hd
theorem a_rload {ty : FieldType} (X : Stand p l e R s m args below meth c T locs cells slots) (hx : p.tables.exec = Jvm.exec) (hZ : Z.Warmed39 s.vm) (eT : T.heap = h) (A : AV Z h a ty n f) (ht : ty.isReference = true) (hj : j.toInt = (k : Int)) (hk : k < n) {v : Value} (hv : f k = v) (hd : decode c.code pc = .ok (.aaload, 1)) :
    ∀ t, Steps p.tables e below (T.setTop (mkF m (pc + 1) Ls (v :: rest))) t → Steps p.tables e below (T.setTop (mkF m pc Ls (.int j :: .ref a :: rest))) t := by
  obtain ⟨cl, A, hin, hat⟩ := A.at hj hk
  rw [hv] at hat
  exact X.aaload hx (j := j) (v := v) (by rw [eT]; exact A.1) (State.isArrayOf_alike hZ.alike A.2.1) ht A.2.2 hin hat (g := mkF m pc Ls (.int j :: .ref a :: rest)) rfl rfl hd
theorem a_len {ty : FieldType} (X : Stand p l e R s m args below meth c T locs cells slots) (hx : p.tables.exec = Jvm.exec) (hZ : Z.Warmed39 s.vm) (eT : T.heap = h) (A : AV Z h a ty n f) {z : Int32} (hz : z.toInt = (n : Int)) (hd : decode c.code pc = .ok (.arraylength, 1)) :
    ∀ t, Steps p.tables e below (T.setTop (mkF m (pc + 1) Ls (.int z :: rest))) t → Steps p.tables e below (T.setTop (mkF m pc Ls (.ref a :: rest))) t := by
  obtain ⟨cl, A, hin⟩ := A.len
  have hb := Int32.toInt_lt z
  have q : cl.slots.size.toInt32 = z := by rw [hin]; exact Int32.toInt_inj.mp (by rw [hz]; exact Int32.toInt_ofNat_of_lt (by omega))
  intro t k
  refine X.arraylength hx (by rw [eT]; exact A.1) (State.isArrayOf_alike hZ.alike A.2.1) (g := mkF m pc Ls (.ref a :: rest)) rfl rfl hd _ ?_
  rw [q]; exact k
end ASteps
theorem own_lt (i n : Nat) (h : i < 2147483648) (hn : n < 2147483648) : (Int32.ofNat i < Int32.ofNat n) ↔ i < n := by
  rw [Int32.lt_iff_toInt_lt, Int32.toInt_ofNat_of_lt (by omega), Int32.toInt_ofNat_of_lt (by omega)]; omega
theorem own_eq (i n : Nat) (h : i < 2147483648) (hn : n < 2147483648) : (Int32.ofNat i = Int32.ofNat n) ↔ i = n := by
  rw [← Int32.toInt_inj, Int32.toInt_ofNat_of_lt (by omega), Int32.toInt_ofNat_of_lt (by omega)]; omega
theorem own_nn (n : Nat) (h : n < 2147483648) : ¬ Int32.ofNat n < 0 := by
  rw [Int32.lt_iff_toInt_lt, Int32.toInt_ofNat_of_lt (by omega)]; simp only [Int32.reduceToInt]; omega
theorem own_sub (t k : Nat) (h : k ≤ t) (ht : t < 2147483648) : Int32.ofNat t - Int32.ofNat k = Int32.ofNat (t - k) := by
  have h1 := c_isub (Int32.ofNat t) (Int32.ofNat k); have h2 := rng32 (Int32.ofNat t - Int32.ofNat k)
  rw [Int32.toInt_ofNat_of_lt (by omega), Int32.toInt_ofNat_of_lt (by omega)] at h1
  refine Int32.toInt_inj.mp ?_
  rw [Int32.toInt_ofNat_of_lt (by omega)]; omega
theorem own_n64 {M : Nat} (h : M < 9223372036854775808) : (Int64.ofNat M).toInt = (M : Int) := Int64.toInt_ofNat_of_lt h
theorem own_i2l {n : Nat} (h : n < 2147483648) : (Int32.ofNat n).toInt64 = Int64.ofNat n := Int64.toInt_inj.mp (by rw [c_i2l, Int32.toInt_ofNat_of_lt (by omega), own_n64 (by omega)])
theorem own_l2i {n : Nat} (h : n < 2147483648) : (Int64.ofNat n).toInt32 = Int32.ofNat n := by
  have h1 := c_l2i (Int64.ofNat n); have h2 := rng32 (Int64.ofNat n).toInt32
  rw [own_n64 (by omega)] at h1
  refine Int32.toInt_inj.mp ?_
  rw [Int32.toInt_ofNat_of_lt (by omega)]; omega
theorem own_lmul {a b : Nat} : Int64.ofNat a * Int64.ofNat b = Int64.ofNat (a * b) := (Int64.ofNat_mul a b).symm
theorem own_prodb {W H M : Nat} (h1 : W ≤ M) (h2 : H ≤ M) : W * H ≤ M * M := Nat.mul_le_mul h1 h2
abbrev mn (a b : Int32) : Int32 := if b < a then b else a
abbrev mx (a b : Int32) : Int32 := if a < b then b else a
theorem own_min (a b : Nat) (ha : a < 2147483648) (hb : b < 2147483648) : mn (Int32.ofNat a) (Int32.ofNat b) = Int32.ofNat (min a b) := by
  have h := own_lt b a hb ha
  unfold mn
  by_cases q : b < a
  · rw [if_pos (h.mpr q), Nat.min_eq_right (by omega)]
  · rw [if_neg (mt h.mp q), Nat.min_eq_left (by omega)]
theorem own_max (a b : Nat) (ha : a < 2147483648) (hb : b < 2147483648) : mx (Int32.ofNat a) (Int32.ofNat b) = Int32.ofNat (max a b) := by
  have h := own_lt a b ha hb
  unfold mx
  by_cases q : a < b
  · rw [if_pos (h.mpr q), Nat.max_eq_right (by omega)]
  · rw [if_neg (mt h.mp q), Nat.max_eq_left (by omega)]
abbrev wf (x : Int32) : Int32 := (((x + (63 : Int32)).toUInt32 >>> ((6 : Int32) &&& 31).toUInt32).toInt32)
theorem own_wf (n : Nat) (h : n ≤ 128) : wf (Int32.ofNat n) = Int32.ofNat ((n + 63) / 64) := by
  have key : ∀ n : Fin 129, wf (Int32.ofNat n.1) = Int32.ofNat ((n.1 + 63) / 64) := by decide +kernel
  exact key ⟨n, by omega⟩
theorem own_side (x : Int32) : ∃ n : Nat, 1 ≤ n ∧ n ≤ 128 ∧ ((1 : Int32) + (x &&& (127 : Int32))) = Int32.ofNat n := by
  have h1 := c_mask x 127 7 (by decide) (by decide)
  have h2 := c_iadd 1 (x &&& 127); have h3 := rng32 (1 + (x &&& 127))
  simp only [Int32.reduceToInt] at *
  refine ⟨(1 + (x &&& 127)).toInt.toNat, by omega, by omega, Int32.toInt_inj.mp ?_⟩
  rw [Int32.toInt_ofNat_of_lt (by omega)]; omega
theorem own_line (x : Int32) (n : Nat) (hn : 0 < n) (h9 : n < 1000) : ∃ i : Nat, i < n ∧ ((x &&& (2147483647 : Int32)) % Int32.ofNat n) = Int32.ofNat i := by
  have h1 := c_mask x 2147483647 31 (by decide) (by decide)
  have h2 := (c_irem (x &&& 2147483647) (Int32.ofNat n) n (Int32.toInt_ofNat_of_lt (by omega))).1 (by omega)
  have h3 := Int.emod_nonneg (x &&& 2147483647).toInt (b := (n : Int)) (by omega)
  have h4 := Int.emod_lt_of_pos (x &&& 2147483647).toInt (b := (n : Int)) (by omega)
  refine ⟨((x &&& 2147483647) % Int32.ofNat n).toInt.toNat, by omega, Int32.toInt_inj.mp ?_⟩
  rw [Int32.toInt_ofNat_of_lt (by omega)]; omega
theorem own_nz (n : Nat) (h : 0 < n) (h9 : n < 1000) : ¬ Int32.ofNat n = 0 := mt (own_eq n 0 (by omega) (by omega)).mp (by omega)
theorem own_nzL (n : Nat) (h : 0 < n) (h9 : n < 1000) : ¬ (Int32.ofNat n).toInt64 = 0 := fun q => by
  have := congrArg Int64.toInt q; rw [own_i2l (by omega), own_n64 (by omega)] at this; simp only [Int64.reduceToInt] at this; omega
abbrev z0 (x : Int32) : Int32 := (x ^^^ (-1 : Int32)) &&& (x - (1 : Int32))
abbrev us (i k : Int32) : Int32 := ((i.toUInt32 >>> (k &&& 31).toUInt32).toInt32)
abbrev i1 (i : Int32) : Int32 := if (65536 : Int32) < i then us i (16 : Int32) else i
abbrev n1 (i : Int32) : Int32 := if (65536 : Int32) < i then (17 : Int32) else (1 : Int32)
abbrev i2 (i : Int32) : Int32 := if (256 : Int32) < i then us i (8 : Int32) else i
abbrev i3 (i : Int32) : Int32 := if (16 : Int32) < i then us i (4 : Int32) else i
abbrev i4 (i : Int32) : Int32 := if (4 : Int32) < i then us i (2 : Int32) else i
abbrev n2 (n i : Int32) : Int32 := if (256 : Int32) < i then n + (8 : Int32) else n
abbrev n3 (n i : Int32) : Int32 := if (16 : Int32) < i then n + (4 : Int32) else n
abbrev n4 (n i : Int32) : Int32 := if (4 : Int32) < i then n + (2 : Int32) else n
abbrev ntzI (x : Int32) : Int32 := if (0 : Int32) < z0 x then n4 (n3 (n2 (n1 (z0 x)) (i1 (z0 x))) (i2 (i1 (z0 x)))) (i3 (i2 (i1 (z0 x)))) + us (i4 (i3 (i2 (i1 (z0 x))))) (1 : Int32) else z0 x &&& (32 : Int32)
abbrev ntz (x : Int64) : Int32 := if x.toInt32 = (0 : Int32) then (32 : Int32) + ntzI ((x.toUInt64 >>> ((32 : Int32) &&& 0x3f).toInt64.toUInt64).toInt64).toInt32 else ntzI x.toInt32
abbrev sh (x : Int32) : Int64 := (1 : Int64) <<< (x &&& 0x3f).toInt64
theorem ef_rmmn (m : MethodId) (x0 : Int32) (x1 : Int32) : entryFrame m #[(.int x0), (.int x1)] 2 = mkF m 0 #[.val (.int x0), .val (.int x1)] [] := by first | (simp [entryFrame, mkF, argsToLocals, Value.category]; done) | rfl
theorem pf_18 : plainFor (⟨"java/lang/Math", "min", "(II)I"⟩ : MethodName) = true := by decide +kernel
theorem d18_0 : decode jdk_29_method_69_code 0 = .ok (.iload_n 0, 1) := by decide +kernel
theorem d18_1 : decode jdk_29_method_69_code 1 = .ok (.iload_n 1, 1) := by decide +kernel
theorem d18_2 : decode jdk_29_method_69_code 2 = .ok (.if_icmp .gt 7, 3) := by decide +kernel
theorem d18_9 : decode jdk_29_method_69_code 9 = .ok (.iload_n 1, 1) := by decide +kernel
theorem d18_10 : decode jdk_29_method_69_code 10 = .ok (.ireturn, 1) := by decide +kernel
theorem d18_5 : decode jdk_29_method_69_code 5 = .ok (.iload_n 0, 1) := by decide +kernel
theorem d18_6 : decode jdk_29_method_69_code 6 = .ok (.goto 4, 3) := by decide +kernel
set_option maxRecDepth 65536 in
set_option maxHeartbeats 40000000 in
theorem rmmn (l : Launch) (Z : State) (a0 : Array Value) (hw : ∀ d ∈ tables_1, d.before a0 Z = true) (ws : List Jvm.Cond) (x y : Int32) (h0 : Heap) (n0 : Nat) (Z0 : n0 ≤ h0.size)  :
    Ctr l Z (⟨"java/lang/Math", "min", "(II)I"⟩ : MethodName) jdk_29_method_69_code 2 (some .int) ws ({ frames := 0, cells := 0, slots := 0, locals := 0 } : Room) 0 0 #[(.int x), (.int y)] h0 (fun v h L => v = some (.int (mn x y)) ∧ L = [] ∧ h = h0) := by
  refine Ctr.mk pf_18 fun p e s m below meth c T0 X0 C e0 => go_cast (ef_rmmn m x y) ?_
  have N0 := Fr.nil n0
  obtain ⟨hx, hZ, hby, hml, hown, hnm, hret, hlk⟩ := C
  show Go _ _ _ _ _ _ _ T0 (mkF m 0 #[.val (.int x), .val (.int y)] [])
  refine Go.step (fun tt kk => XS.iloadN X0.here hx rfl (hb hby d18_0) rfl kk) ?_
  show Go _ _ _ _ _ _ _ T0 (mkF m 1 #[_, _] [(.int x)])
  refine Go.step (fun tt kk => XS.iloadN X0.here hx rfl (hb hby d18_1) rfl kk) ?_
  show Go _ _ _ _ _ _ _ T0 (mkF m 2 #[_, _] [(.int y), (.int x)])
  by_cases c2_1 : y < x
  · refine Go.step (fun tt kk => XS.icmpYes X0.here hx rfl (pc0 := 2) (pc' := 9) rfl (hb hby d18_2) rfl (tlt c2_1).2.2.1 (by decide) (by decide) kk) ?_
    show Go _ _ _ _ _ _ _ T0 (mkF m 9 #[_, _] [])
    refine Go.step (fun tt kk => XS.iloadN X0.here hx rfl (hb hby d18_9) rfl kk) ?_
    show Go _ _ _ _ _ _ _ T0 (mkF m 10 #[_, _] [(.int y)])
    refine go_retI X0 hx hret hlk (hb hby d18_10) ?_ (by decide) (by decide)
    try rw [e0]
    exact ⟨congrArg (fun z => some (Value.int z)) (by simp only [mn, eq_true c2_1, if_true, if_false]), rfl, rfl⟩
  · refine Go.step (fun tt kk => XS.icmpNo X0.here hx rfl (hb hby d18_2) rfl (flt c2_1).2.2.1 kk) ?_
    show Go _ _ _ _ _ _ _ T0 (mkF m 5 #[_, _] [])
    refine Go.step (fun tt kk => XS.iloadN X0.here hx rfl (hb hby d18_5) rfl kk) ?_
    show Go _ _ _ _ _ _ _ T0 (mkF m 6 #[_, _] [(.int x)])
    refine Go.step (fun tt kk => XS.goto X0.here hx rfl (pc0 := 6) (pc' := 10) rfl (hb hby d18_6) (by decide) (by decide) kk) ?_
    show Go _ _ _ _ _ _ _ T0 (mkF m 10 #[_, _] [(.int x)])
    refine go_retI X0 hx hret hlk (hb hby d18_10) ?_ (by decide) (by decide)
    try rw [e0]
    exact ⟨congrArg (fun z => some (Value.int z)) (by simp only [mn, eq_false c2_1, if_true, if_false]), rfl, rfl⟩
theorem ef_rmmx (m : MethodId) (x0 : Int32) (x1 : Int32) : entryFrame m #[(.int x0), (.int x1)] 2 = mkF m 0 #[.val (.int x0), .val (.int x1)] [] := by first | (simp [entryFrame, mkF, argsToLocals, Value.category]; done) | rfl
theorem pf_4 : plainFor (⟨"java/lang/Math", "max", "(II)I"⟩ : MethodName) = true := by decide +kernel
theorem d4_0 : decode jdk_29_method_65_code 0 = .ok (.iload_n 0, 1) := by decide +kernel
theorem d4_1 : decode jdk_29_method_65_code 1 = .ok (.iload_n 1, 1) := by decide +kernel
theorem d4_2 : decode jdk_29_method_65_code 2 = .ok (.if_icmp .lt 7, 3) := by decide +kernel
theorem d4_9 : decode jdk_29_method_65_code 9 = .ok (.iload_n 1, 1) := by decide +kernel
theorem d4_10 : decode jdk_29_method_65_code 10 = .ok (.ireturn, 1) := by decide +kernel
theorem d4_5 : decode jdk_29_method_65_code 5 = .ok (.iload_n 0, 1) := by decide +kernel
theorem d4_6 : decode jdk_29_method_65_code 6 = .ok (.goto 4, 3) := by decide +kernel
set_option maxRecDepth 65536 in
set_option maxHeartbeats 40000000 in
theorem rmmx (l : Launch) (Z : State) (a0 : Array Value) (hw : ∀ d ∈ tables_1, d.before a0 Z = true) (ws : List Jvm.Cond) (x y : Int32) (h0 : Heap) (n0 : Nat) (Z0 : n0 ≤ h0.size)  :
    Ctr l Z (⟨"java/lang/Math", "max", "(II)I"⟩ : MethodName) jdk_29_method_65_code 2 (some .int) ws ({ frames := 0, cells := 0, slots := 0, locals := 0 } : Room) 0 0 #[(.int x), (.int y)] h0 (fun v h L => v = some (.int (mx x y)) ∧ L = [] ∧ h = h0) := by
  refine Ctr.mk pf_4 fun p e s m below meth c T0 X0 C e0 => go_cast (ef_rmmx m x y) ?_
  have N0 := Fr.nil n0
  obtain ⟨hx, hZ, hby, hml, hown, hnm, hret, hlk⟩ := C
  show Go _ _ _ _ _ _ _ T0 (mkF m 0 #[.val (.int x), .val (.int y)] [])
  refine Go.step (fun tt kk => XS.iloadN X0.here hx rfl (hb hby d4_0) rfl kk) ?_
  show Go _ _ _ _ _ _ _ T0 (mkF m 1 #[_, _] [(.int x)])
  refine Go.step (fun tt kk => XS.iloadN X0.here hx rfl (hb hby d4_1) rfl kk) ?_
  show Go _ _ _ _ _ _ _ T0 (mkF m 2 #[_, _] [(.int y), (.int x)])
  by_cases c2_1 : x < y
  · refine Go.step (fun tt kk => XS.icmpYes X0.here hx rfl (pc0 := 2) (pc' := 9) rfl (hb hby d4_2) rfl (tlt c2_1).1 (by decide) (by decide) kk) ?_
    show Go _ _ _ _ _ _ _ T0 (mkF m 9 #[_, _] [])
    refine Go.step (fun tt kk => XS.iloadN X0.here hx rfl (hb hby d4_9) rfl kk) ?_
    show Go _ _ _ _ _ _ _ T0 (mkF m 10 #[_, _] [(.int y)])
    refine go_retI X0 hx hret hlk (hb hby d4_10) ?_ (by decide) (by decide)
    try rw [e0]
    exact ⟨congrArg (fun z => some (Value.int z)) (by simp only [mx, eq_true c2_1, if_true, if_false]), rfl, rfl⟩
  · refine Go.step (fun tt kk => XS.icmpNo X0.here hx rfl (hb hby d4_2) rfl (flt c2_1).1 kk) ?_
    show Go _ _ _ _ _ _ _ T0 (mkF m 5 #[_, _] [])
    refine Go.step (fun tt kk => XS.iloadN X0.here hx rfl (hb hby d4_5) rfl kk) ?_
    show Go _ _ _ _ _ _ _ T0 (mkF m 6 #[_, _] [(.int x)])
    refine Go.step (fun tt kk => XS.goto X0.here hx rfl (pc0 := 6) (pc' := 10) rfl (hb hby d4_6) (by decide) (by decide) kk) ?_
    show Go _ _ _ _ _ _ _ T0 (mkF m 10 #[_, _] [(.int x)])
    refine go_retI X0 hx hret hlk (hb hby d4_10) ?_ (by decide) (by decide)
    try rw [e0]
    exact ⟨congrArg (fun z => some (Value.int z)) (by simp only [mx, eq_false c2_1, if_true, if_false]), rfl, rfl⟩
theorem ef_rmwf (m : MethodId) (x0 : Int32) : entryFrame m #[(.int x0)] 1 = mkF m 0 #[.val (.int x0)] [] := by first | (simp [entryFrame, mkF, argsToLocals, Value.category]; done) | rfl
theorem pn_0 : plainName "com/example/gridwright/gridwright/engine/Grid" = true := by first | (simp [plainName, overriddenIn]; done) | decide +kernel
theorem d5_0 : decode prog_58_method_13_code 0 = .ok (.iload_n 0, 1) := by decide +kernel
theorem d5_1 : decode prog_58_method_13_code 1 = .ok (.bipush 63, 2) := by decide +kernel
theorem d5_3 : decode prog_58_method_13_code 3 = .ok (.iadd, 1) := by decide +kernel
theorem d5_4 : decode prog_58_method_13_code 4 = .ok (.bipush 6, 2) := by decide +kernel
theorem d5_6 : decode prog_58_method_13_code 6 = .ok (.iushr, 1) := by decide +kernel
theorem d5_7 : decode prog_58_method_13_code 7 = .ok (.ireturn, 1) := by decide +kernel
set_option maxRecDepth 65536 in
set_option maxHeartbeats 40000000 in
theorem rmwf (l : Launch) (Z : State) (a0 : Array Value) (hw : ∀ d ∈ tables_1, d.before a0 Z = true) (ws : List Jvm.Cond) (x : Int32) (h0 : Heap) (n0 : Nat) (Z0 : n0 ≤ h0.size)  :
    Ctr l Z (⟨"com/example/gridwright/gridwright/engine/Grid", "wordsFor", "(I)I"⟩ : MethodName) prog_58_method_13_code 1 (some .int) ws ({ frames := 0, cells := 0, slots := 0, locals := 0 } : Room) 0 0 #[(.int x)] h0 (fun v h L => v = some (.int (wf x)) ∧ L = [] ∧ h = h0) := by
  refine Ctr.mk (plainFor_of_name pn_0) fun p e s m below meth c T0 X0 C e0 => go_cast (ef_rmwf m x) ?_
  have N0 := Fr.nil n0
  obtain ⟨hx, hZ, hby, hml, hown, hnm, hret, hlk⟩ := C
  show Go _ _ _ _ _ _ _ T0 (mkF m 0 #[.val (.int x)] [])
  refine Go.step (fun tt kk => XS.iloadN X0.here hx rfl (hb hby d5_0) rfl kk) ?_
  show Go _ _ _ _ _ _ _ T0 (mkF m 1 #[_] [(.int x)])
  refine Go.step (fun tt kk => XS.bipush X0.here hx rfl (hb hby d5_1) kk) ?_
  show Go _ _ _ _ _ _ _ T0 (mkF m 3 #[_] [(.int (63 : Int32)), (.int x)])
  refine Go.step (fun tt kk => XS.iadd X0.here hx rfl (hb hby d5_3) rfl kk) ?_
  show Go _ _ _ _ _ _ _ T0 (mkF m 4 #[_] [(.int (x + (63 : Int32)))])
  refine Go.step (fun tt kk => XS.bipush X0.here hx rfl (hb hby d5_4) kk) ?_
  show Go _ _ _ _ _ _ _ T0 (mkF m 6 #[_] [(.int (6 : Int32)), (.int (x + (63 : Int32)))])
  refine Go.step (fun tt kk => XS.iushr X0.here hx rfl (hb hby d5_6) rfl kk) ?_
  show Go _ _ _ _ _ _ _ T0 (mkF m 7 #[_] [(.int (((x + (63 : Int32)).toUInt32 >>> ((6 : Int32) &&& 31).toUInt32).toInt32))])
  refine go_retI X0 hx hret hlk (hb hby d5_7) ?_ (by decide) (by decide)
  try rw [e0]
  exact ⟨rfl, rfl, rfl⟩
theorem ef_rmme (m : MethodId) (x0 : Int32) (x1 : Int32) : entryFrame m #[(.int x0), (.int x1)] 4 = mkF m 0 #[.val (.int x0), .val (.int x1), .unset, .unset] [] := by first | (simp [entryFrame, mkF, argsToLocals, Value.category]; done) | rfl
theorem pf_7 : plainFor (⟨"java/lang/Math", "multiplyExact", "(II)I"⟩ : MethodName) = true := by decide +kernel
theorem d7_0 : decode jdk_29_method_28_code 0 = .ok (.iload_n 0, 1) := by decide +kernel
theorem d7_1 : decode jdk_29_method_28_code 1 = .ok (.i2l, 1) := by decide +kernel
theorem d7_2 : decode jdk_29_method_28_code 2 = .ok (.iload_n 1, 1) := by decide +kernel
theorem d7_3 : decode jdk_29_method_28_code 3 = .ok (.i2l, 1) := by decide +kernel
theorem d7_4 : decode jdk_29_method_28_code 4 = .ok (.lmul, 1) := by decide +kernel
theorem d7_5 : decode jdk_29_method_28_code 5 = .ok (.lstore_n 2, 1) := by decide +kernel
theorem d7_6 : decode jdk_29_method_28_code 6 = .ok (.lload_n 2, 1) := by decide +kernel
theorem d7_7 : decode jdk_29_method_28_code 7 = .ok (.l2i, 1) := by decide +kernel
theorem d7_8 : decode jdk_29_method_28_code 8 = .ok (.i2l, 1) := by decide +kernel
theorem d7_9 : decode jdk_29_method_28_code 9 = .ok (.lload_n 2, 1) := by decide +kernel
theorem d7_10 : decode jdk_29_method_28_code 10 = .ok (.lcmp, 1) := by decide +kernel
theorem d7_11 : decode jdk_29_method_28_code 11 = .ok (.ifCond .eq 13, 3) := by decide +kernel
theorem d7_24 : decode jdk_29_method_28_code 24 = .ok (.lload_n 2, 1) := by decide +kernel
theorem d7_25 : decode jdk_29_method_28_code 25 = .ok (.l2i, 1) := by decide +kernel
theorem d7_26 : decode jdk_29_method_28_code 26 = .ok (.ireturn, 1) := by decide +kernel
set_option maxRecDepth 65536 in
set_option maxHeartbeats 40000000 in
theorem rmme (l : Launch) (Z : State) (a0 : Array Value) (hw : ∀ d ∈ tables_1, d.before a0 Z = true) (ws : List Jvm.Cond) (W H : Nat) (h0 : Heap) (n0 : Nat) (Z0 : n0 ≤ h0.size) (hW : W ≤ 128) (hH : H ≤ 128) :
    Ctr l Z (⟨"java/lang/Math", "multiplyExact", "(II)I"⟩ : MethodName) jdk_29_method_28_code 4 (some .int) ws ({ frames := 0, cells := 0, slots := 0, locals := 0 } : Room) 0 0 #[(.int (Int32.ofNat W)), (.int (Int32.ofNat H))] h0 (fun v h L => v = some (.int (Int32.ofNat (W * H))) ∧ L = [] ∧ h = h0) := by
  refine Ctr.mk pf_7 fun p e s m below meth c T0 X0 C e0 => go_cast (ef_rmme m (Int32.ofNat W) (Int32.ofNat H)) ?_
  have N0 := Fr.nil n0
  obtain ⟨hx, hZ, hby, hml, hown, hnm, hret, hlk⟩ := C
  have hWH := own_prodb hW hH
  show Go _ _ _ _ _ _ _ T0 (mkF m 0 #[.val (.int (Int32.ofNat W)), .val (.int (Int32.ofNat H)), .unset, .unset] [])
  refine Go.step (fun tt kk => XS.iloadN X0.here hx rfl (hb hby d7_0) rfl kk) ?_
  show Go _ _ _ _ _ _ _ T0 (mkF m 1 #[_, _, _, _] [(.int (Int32.ofNat W))])
  refine Go.step (fun tt kk => XS.i2l X0.here hx rfl (hb hby d7_1) rfl kk) ?_
  show Go _ _ _ _ _ _ _ T0 (mkF m 2 #[_, _, _, _] [(.long ((Int32.ofNat W).toInt64))])
  refine Go.step (fun tt kk => XS.iloadN X0.here hx rfl (hb hby d7_2) rfl kk) ?_
  show Go _ _ _ _ _ _ _ T0 (mkF m 3 #[_, _, _, _] [(.int (Int32.ofNat H)), (.long ((Int32.ofNat W).toInt64))])
  refine Go.step (fun tt kk => XS.i2l X0.here hx rfl (hb hby d7_3) rfl kk) ?_
  show Go _ _ _ _ _ _ _ T0 (mkF m 4 #[_, _, _, _] [(.long ((Int32.ofNat H).toInt64)), (.long ((Int32.ofNat W).toInt64))])
  refine Go.step (fun tt kk => XS.lmul X0.here hx rfl (hb hby d7_4) rfl kk) ?_
  show Go _ _ _ _ _ _ _ T0 (mkF m 5 #[_, _, _, _] [(.long (((Int32.ofNat W).toInt64) * ((Int32.ofNat H).toInt64)))])
  rw [own_i2l (by omega), own_i2l (by omega), own_lmul]
  show Go _ _ _ _ _ _ _ T0 (mkF m 5 #[.val (.int (Int32.ofNat W)), .val (.int (Int32.ofNat H)), .unset, .unset] [(.long (Int64.ofNat (W * H)))])
  refine Go.step (fun tt kk => XS.lstoreN X0.here hx rfl (hb hby d7_5) rfl (l' := #[.val (.int (Int32.ofNat W)), .val (.int (Int32.ofNat H)), .val (.long (Int64.ofNat (W * H))), .second]) rfl kk) ?_
  show Go _ _ _ _ _ _ _ T0 (mkF m 6 #[_, _, _, _] [])
  refine Go.step (fun tt kk => XS.lloadN X0.here hx rfl (hb hby d7_6) rfl kk) ?_
  show Go _ _ _ _ _ _ _ T0 (mkF m 7 #[_, _, _, _] [(.long (Int64.ofNat (W * H)))])
  refine Go.step (fun tt kk => XS.l2i X0.here hx rfl (hb hby d7_7) rfl kk) ?_
  show Go _ _ _ _ _ _ _ T0 (mkF m 8 #[_, _, _, _] [(.int ((Int64.ofNat (W * H)).toInt32))])
  refine Go.step (fun tt kk => XS.i2l X0.here hx rfl (hb hby d7_8) rfl kk) ?_
  show Go _ _ _ _ _ _ _ T0 (mkF m 9 #[_, _, _, _] [(.long (((Int64.ofNat (W * H)).toInt32).toInt64))])
  refine Go.step (fun tt kk => XS.lloadN X0.here hx rfl (hb hby d7_9) rfl kk) ?_
  show Go _ _ _ _ _ _ _ T0 (mkF m 10 #[_, _, _, _] [(.long (Int64.ofNat (W * H))), (.long (((Int64.ofNat (W * H)).toInt32).toInt64))])
  refine Go.step (fun tt kk => XS.lcmp X0.here hx rfl (hb hby d7_10) rfl kk) ?_
  show Go _ _ _ _ _ _ _ T0 (mkF m 11 #[_, _, _, _] [(.int (lcmpW (((Int64.ofNat (W * H)).toInt32).toInt64) (Int64.ofNat (W * H))))])
  refine Go.step (fun tt kk => XS.ifYes X0.here hx rfl (pc0 := 11) (pc' := 24) rfl (hb hby d7_11) rfl ((if0 _ _).trans (teq ((lw_eq _ _).mpr (by rw [own_l2i (by omega), own_i2l (by omega)]))).1) (by decide) (by decide) kk) ?_
  show Go _ _ _ _ _ _ _ T0 (mkF m 24 #[_, _, _, _] [])
  refine Go.step (fun tt kk => XS.lloadN X0.here hx rfl (hb hby d7_24) rfl kk) ?_
  show Go _ _ _ _ _ _ _ T0 (mkF m 25 #[_, _, _, _] [(.long (Int64.ofNat (W * H)))])
  refine Go.step (fun tt kk => XS.l2i X0.here hx rfl (hb hby d7_25) rfl kk) ?_
  show Go _ _ _ _ _ _ _ T0 (mkF m 26 #[_, _, _, _] [(.int ((Int64.ofNat (W * H)).toInt32))])
  refine go_retI X0 hx hret hlk (hb hby d7_26) ?_ (by decide) (by decide)
  try rw [e0]
  exact ⟨congrArg (fun z => some (Value.int z)) (own_l2i (by omega)), rfl, rfl⟩
theorem ef_rmGi (m : MethodId) (x0 : Addr) (x1 : Int32) (x2 : Int32) : entryFrame m #[(.ref x0), (.int x1), (.int x2)] 4 = mkF m 0 #[.val (.ref x0), .val (.int x1), .val (.int x2), .unset] [] := by first | (simp [entryFrame, mkF, argsToLocals, Value.category]; done) | rfl
theorem d6_0 : decode prog_58_method_1_code 0 = .ok (.aload_n 0, 1) := by decide +kernel
theorem d6_1 : decode prog_58_method_1_code 1 = .ok (.invokespecial 1, 3) := by decide +kernel
theorem d6_4 : decode prog_58_method_1_code 4 = .ok (.iload_n 1, 1) := by decide +kernel
theorem d6_5 : decode prog_58_method_1_code 5 = .ok (.iconst 1, 1) := by decide +kernel
theorem d6_6 : decode prog_58_method_1_code 6 = .ok (.if_icmp .lt 8, 3) := by decide +kernel
theorem d6_9 : decode prog_58_method_1_code 9 = .ok (.iload_n 2, 1) := by decide +kernel
theorem d6_10 : decode prog_58_method_1_code 10 = .ok (.iconst 1, 1) := by decide +kernel
theorem d6_11 : decode prog_58_method_1_code 11 = .ok (.if_icmp .ge 18, 3) := by decide +kernel
theorem d6_29 : decode prog_58_method_1_code 29 = .ok (.aload_n 0, 1) := by decide +kernel
theorem d6_30 : decode prog_58_method_1_code 30 = .ok (.iload_n 1, 1) := by decide +kernel
theorem d6_31 : decode prog_58_method_1_code 31 = .ok (.putfield 16, 3) := by decide +kernel
theorem d6_34 : decode prog_58_method_1_code 34 = .ok (.aload_n 0, 1) := by decide +kernel
theorem d6_35 : decode prog_58_method_1_code 35 = .ok (.iload_n 2, 1) := by decide +kernel
theorem d6_36 : decode prog_58_method_1_code 36 = .ok (.putfield 22, 3) := by decide +kernel
theorem d6_39 : decode prog_58_method_1_code 39 = .ok (.aload_n 0, 1) := by decide +kernel
theorem d6_40 : decode prog_58_method_1_code 40 = .ok (.iload_n 1, 1) := by decide +kernel
theorem d6_41 : decode prog_58_method_1_code 41 = .ok (.iload_n 2, 1) := by decide +kernel
theorem pd_0 : parseMethodDescriptor "(II)I" = some ⟨[.int, .int], some .int⟩ := by decide +kernel
theorem d6_42 : decode prog_58_method_1_code 42 = .ok (.invokestatic 25, 3) := by decide +kernel
theorem d6_45 : decode prog_58_method_1_code 45 = .ok (.newarray .byte, 2) := by decide +kernel
theorem d6_47 : decode prog_58_method_1_code 47 = .ok (.putfield 31, 3) := by decide +kernel
theorem d6_50 : decode prog_58_method_1_code 50 = .ok (.aload_n 0, 1) := by decide +kernel
theorem d6_51 : decode prog_58_method_1_code 51 = .ok (.getfield 31, 3) := by decide +kernel
theorem d6_54 : decode prog_58_method_1_code 54 = .ok (.arraylength, 1) := by decide +kernel
theorem d6_55 : decode prog_58_method_1_code 55 = .ok (.i2l, 1) := by decide +kernel
theorem d6_56 : decode prog_58_method_1_code 56 = .ok (.iload_n 1, 1) := by decide +kernel
theorem d6_57 : decode prog_58_method_1_code 57 = .ok (.i2l, 1) := by decide +kernel
theorem d6_58 : decode prog_58_method_1_code 58 = .ok (.lmul, 1) := by decide +kernel
theorem d6_59 : decode prog_58_method_1_code 59 = .ok (.ldc2_w 35, 3) := by decide +kernel
theorem d6_62 : decode prog_58_method_1_code 62 = .ok (.lcmp, 1) := by decide +kernel
theorem d6_63 : decode prog_58_method_1_code 63 = .ok (.ifCond .ge 7, 3) := by decide +kernel
theorem d6_71 : decode prog_58_method_1_code 71 = .ok (.istore_n 3, 1) := by decide +kernel
theorem d6_72 : decode prog_58_method_1_code 72 = .ok (.aload_n 0, 1) := by decide +kernel
theorem d6_73 : decode prog_58_method_1_code 73 = .ok (.iload_n 3, 1) := by decide +kernel
theorem d6_92 : decode prog_58_method_1_code 92 = .ok (.putfield 37, 3) := by decide +kernel
theorem d6_95 : decode prog_58_method_1_code 95 = .ok (.aload_n 0, 1) := by decide +kernel
theorem d6_96 : decode prog_58_method_1_code 96 = .ok (.iload_n 1, 1) := by decide +kernel
theorem d6_97 : decode prog_58_method_1_code 97 = .ok (.iload_n 2, 1) := by decide +kernel
theorem d6_98 : decode prog_58_method_1_code 98 = .ok (.invokestatic 41, 3) := by decide +kernel
theorem pd_1 : parseMethodDescriptor "(I)I" = some ⟨[.int], some .int⟩ := by decide +kernel
theorem d6_101 : decode prog_58_method_1_code 101 = .ok (.invokestatic 44, 3) := by decide +kernel
theorem d6_104 : decode prog_58_method_1_code 104 = .ok (.putfield 48, 3) := by decide +kernel
theorem d6_107 : decode prog_58_method_1_code 107 = .ok (.aload_n 0, 1) := by decide +kernel
theorem d6_108 : decode prog_58_method_1_code 108 = .ok (.iload_n 1, 1) := by decide +kernel
theorem d6_109 : decode prog_58_method_1_code 109 = .ok (.iload_n 2, 1) := by decide +kernel
theorem d6_110 : decode prog_58_method_1_code 110 = .ok (.iadd, 1) := by decide +kernel
theorem d6_111 : decode prog_58_method_1_code 111 = .ok (.aload_n 0, 1) := by decide +kernel
theorem d6_112 : decode prog_58_method_1_code 112 = .ok (.getfield 48, 3) := by decide +kernel
theorem d6_115 : decode prog_58_method_1_code 115 = .ok (.imul, 1) := by decide +kernel
theorem d6_116 : decode prog_58_method_1_code 116 = .ok (.newarray .long, 2) := by decide +kernel
theorem d6_118 : decode prog_58_method_1_code 118 = .ok (.putfield 51, 3) := by decide +kernel
theorem d6_121 : decode prog_58_method_1_code 121 = .ok (.aload_n 0, 1) := by decide +kernel
theorem d6_122 : decode prog_58_method_1_code 122 = .ok (.iload_n 1, 1) := by decide +kernel
theorem d6_123 : decode prog_58_method_1_code 123 = .ok (.iload_n 2, 1) := by decide +kernel
theorem d6_124 : decode prog_58_method_1_code 124 = .ok (.iadd, 1) := by decide +kernel
theorem d6_125 : decode prog_58_method_1_code 125 = .ok (.aload_n 0, 1) := by decide +kernel
theorem d6_126 : decode prog_58_method_1_code 126 = .ok (.getfield 48, 3) := by decide +kernel
theorem d6_129 : decode prog_58_method_1_code 129 = .ok (.imul, 1) := by decide +kernel
theorem d6_130 : decode prog_58_method_1_code 130 = .ok (.newarray .long, 2) := by decide +kernel
theorem d6_132 : decode prog_58_method_1_code 132 = .ok (.putfield 55, 3) := by decide +kernel
theorem d6_135 : decode prog_58_method_1_code 135 = .ok (.return_, 1) := by decide +kernel
theorem d6_74 : decode prog_58_method_1_code 74 = .ok (.ifCond .eq 17, 3) := by decide +kernel
theorem d6_77 : decode prog_58_method_1_code 77 = .ok (.ldc2_w 35, 3) := by decide +kernel
theorem d6_80 : decode prog_58_method_1_code 80 = .ok (.iload_n 1, 1) := by decide +kernel
theorem d6_81 : decode prog_58_method_1_code 81 = .ok (.i2l, 1) := by decide +kernel
theorem d6_82 : decode prog_58_method_1_code 82 = .ok (.ladd, 1) := by decide +kernel
theorem d6_83 : decode prog_58_method_1_code 83 = .ok (.lconst 1, 1) := by decide +kernel
theorem d6_84 : decode prog_58_method_1_code 84 = .ok (.lsub, 1) := by decide +kernel
theorem d6_85 : decode prog_58_method_1_code 85 = .ok (.iload_n 1, 1) := by decide +kernel
theorem d6_86 : decode prog_58_method_1_code 86 = .ok (.i2l, 1) := by decide +kernel
theorem d6_87 : decode prog_58_method_1_code 87 = .ok (.ldiv, 1) := by decide +kernel
theorem d6_88 : decode prog_58_method_1_code 88 = .ok (.goto 4, 3) := by decide +kernel
theorem d6_91 : decode prog_58_method_1_code 91 = .ok (.lconst 0, 1) := by decide +kernel
theorem d6_66 : decode prog_58_method_1_code 66 = .ok (.iconst 1, 1) := by decide +kernel
theorem d6_67 : decode prog_58_method_1_code 67 = .ok (.goto 4, 3) := by decide +kernel
theorem d6_70 : decode prog_58_method_1_code 70 = .ok (.iconst 0, 1) := by decide +kernel
set_option maxRecDepth 65536 in
set_option maxHeartbeats 40000000 in
theorem rmGi (l : Launch) (Z : State) (a0 : Array Value) (hw : ∀ d ∈ tables_1, d.before a0 Z = true) (ws : List Jvm.Cond) (a : Addr) (W H : Nat) (h0 : Heap) (n0 : Nat) (Z0 : n0 ≤ h0.size) (hW1 : 1 ≤ W) (hW : W ≤ 128) (hH1 : 1 ≤ H) (hH : H ≤ 128) (E_a : Exa Z h0 a "com/example/gridwright/gridwright/engine/Grid") (F_0 : Fld Z h0 a "com/example/gridwright/gridwright/engine/Grid" "width" "I" (.int (0 : Int32))) (F_1 : Fld Z h0 a "com/example/gridwright/gridwright/engine/Grid" "height" "I" (.int (0 : Int32))) (F_2 : Fld Z h0 a "com/example/gridwright/gridwright/engine/Grid" "cells" "[B" .null) (F_3 : Fld Z h0 a "com/example/gridwright/gridwright/engine/Grid" "rowFactor" "J" (.long (0 : Int64))) (F_4 : Fld Z h0 a "com/example/gridwright/gridwright/engine/Grid" "stride" "I" (.int (0 : Int32))) (F_5 : Fld Z h0 a "com/example/gridwright/gridwright/engine/Grid" "filled" "[J" .null) (F_6 : Fld Z h0 a "com/example/gridwright/gridwright/engine/Grid" "empty" "[J" .null) (g_a : n0 ≤ a) :
    Ctr l Z (⟨"com/example/gridwright/gridwright/engine/Grid", "<init>", "(II)V"⟩ : MethodName) prog_58_method_1_code 4 none ws ({ frames := 1, cells := 3, slots := 17408, locals := 16 } : Room) 3 17408 #[(.ref a), (.int (Int32.ofNat W)), (.int (Int32.ofNat H))] h0 (fun v h L => v = none ∧ Fr n0 L ∧ Keep h0 h [a] ∧ Exa Z h a "com/example/gridwright/gridwright/engine/Grid" ∧ Fld Z h a "com/example/gridwright/gridwright/engine/Grid" "width" "I" (.int (Int32.ofNat W)) ∧ Fld Z h a "com/example/gridwright/gridwright/engine/Grid" "height" "I" (.int (Int32.ofNat H))) := by
  refine Ctr.mk (plainFor_of_name pn_0) fun p e s m below meth c T0 X0 C e0 => go_cast (ef_rmGi m a (Int32.ofNat W) (Int32.ofNat H)) ?_
  have N0 := Fr.nil n0
  obtain ⟨hx, hZ, hby, hml, hown, hnm, hret, hlk⟩ := C
  obtain ⟨hI, eI⟩ : ∃ z, z = h0 := ⟨_, rfl⟩
  have K0 : Keep hI h0 [a] := by rw [eI]; exact Keep.refl _ _
  have hWH := own_prodb hW hH
  have hS : (max W H + 63) / 64 ≤ 2 := by omega
  have hSS : (W + H) * ((max W H + 63) / 64) ≤ 256 * 2 := Nat.mul_le_mul (by omega) hS
  show Go _ _ _ _ _ _ _ T0 (mkF m 0 #[.val (.ref a), .val (.int (Int32.ofNat W)), .val (.int (Int32.ofNat H)), .unset] [])
  refine Go.step (fun tt kk => XS.aloadN X0.here hx rfl (hb hby d6_0) rfl rfl kk) ?_
  show Go _ _ _ _ _ _ _ T0 (mkF m 1 #[_, _, _, _] [(.ref a)])
  obtain ⟨T1, X1, e1, st1⟩ := initO X0 hx hZ hown (hw _ (List.mem_of_getElem? (i := 47) rfl)) (hw _ (List.mem_of_getElem? (i := 13) rfl)) (hw _ (List.mem_of_getElem? (i := 14) rfl)) e0 (g := (mkF m 1 #[.val (.ref a), .val (.int (Int32.ofNat W)), .val (.int (Int32.ofNat H)), .unset] [(.ref a)])) rfl (by rw [hml]; rfl) rfl (hb hby d6_1) (by decide) (W := 0) (by show 2 * 0 + _ ≤ _; exact Nat.le_of_eq rfl) (by decide)
  refine Go.step (st1) ?_
  show Go _ _ _ _ _ _ _ T1 (mkF m 4 #[_, _, _, _] [])
  refine Go.step (fun tt kk => XS.iloadN X1.here hx rfl (hb hby d6_4) rfl kk) ?_
  show Go _ _ _ _ _ _ _ T1 (mkF m 5 #[_, _, _, _] [(.int (Int32.ofNat W))])
  refine Go.step (fun tt kk => XS.iconst X1.here hx rfl (hb hby d6_5) kk) ?_
  show Go _ _ _ _ _ _ _ T1 (mkF m 6 #[_, _, _, _] [(.int (1 : Int32)), (.int (Int32.ofNat W))])
  refine Go.step (fun tt kk => XS.icmpNo X1.here hx rfl (hb hby d6_6) rfl (flt (mt (own_lt W 1 (by omega) (by omega)).mp (by omega))).1 kk) ?_
  show Go _ _ _ _ _ _ _ T1 (mkF m 9 #[_, _, _, _] [])
  refine Go.step (fun tt kk => XS.iloadN X1.here hx rfl (hb hby d6_9) rfl kk) ?_
  show Go _ _ _ _ _ _ _ T1 (mkF m 10 #[_, _, _, _] [(.int (Int32.ofNat H))])
  refine Go.step (fun tt kk => XS.iconst X1.here hx rfl (hb hby d6_10) kk) ?_
  show Go _ _ _ _ _ _ _ T1 (mkF m 11 #[_, _, _, _] [(.int (1 : Int32)), (.int (Int32.ofNat H))])
  refine Go.step (fun tt kk => XS.icmpYes X1.here hx rfl (pc0 := 11) (pc' := 29) rfl (hb hby d6_11) rfl (flt (mt (own_lt H 1 (by omega) (by omega)).mp (by omega))).2.1 (by decide) (by decide) kk) ?_
  show Go _ _ _ _ _ _ _ T1 (mkF m 29 #[_, _, _, _] [])
  refine Go.step (fun tt kk => XS.aloadN X1.here hx rfl (hb hby d6_29) rfl rfl kk) ?_
  show Go _ _ _ _ _ _ _ T1 (mkF m 30 #[_, _, _, _] [(.ref a)])
  refine Go.step (fun tt kk => XS.iloadN X1.here hx rfl (hb hby d6_30) rfl kk) ?_
  show Go _ _ _ _ _ _ _ T1 (mkF m 31 #[_, _, _, _] [(.int (Int32.ofNat W)), (.ref a)])
  obtain ⟨T2, h2, X2, e2, W2, st2⟩ := putF X1 hx hZ hown (host := "") (Or.inl (hw _ (List.mem_of_getElem? (i := 48) rfl))) Via.refl e1 F_0 E_a (Or.inr ⟨(hw _ (List.mem_of_getElem? (i := 49) rfl)), rfl, hnm⟩) (hw _ (List.mem_of_getElem? (i := 43) rfl)) (ty := .int) (by decide) rfl rfl (g := (mkF m 31 #[.val (.ref a), .val (.int (Int32.ofNat W)), .val (.int (Int32.ofNat H)), .unset] [(.int (Int32.ofNat W)), (.ref a)])) rfl rfl (hb hby d6_31)
  have F2 := Fld.same W2 F_0
  have N2 := Fr.snoc X2 N0 g_a
  have Z2 : n0 ≤ h2.size := Nat.le_trans Z0 (Keep.of_wr W2).1
  have K2 : Keep hI h2 [a] := K0.wr W2 (Or.inl (List.mem_of_getElem? (i := 0) rfl))
  refine Go.step (st2) ?_
  show Go _ _ _ _ _ _ _ T2 (mkF m 34 #[_, _, _, _] [])
  refine Go.step (fun tt kk => XS.aloadN X2.here hx rfl (hb hby d6_34) rfl rfl kk) ?_
  show Go _ _ _ _ _ _ _ T2 (mkF m 35 #[_, _, _, _] [(.ref a)])
  refine Go.step (fun tt kk => XS.iloadN X2.here hx rfl (hb hby d6_35) rfl kk) ?_
  show Go _ _ _ _ _ _ _ T2 (mkF m 36 #[_, _, _, _] [(.int (Int32.ofNat H)), (.ref a)])
  have f4 := (Fld.other W2 F_1 (Or.inr (slot_ne (Or.inr (hw _ (List.mem_of_getElem? (i := 51) rfl))) (Or.inr (hw _ (List.mem_of_getElem? (i := 49) rfl))) (by decide) (t := .int) (t' := .int) (by decide) (by decide))))
  have f5 := (Exa.wr W2 E_a)
  obtain ⟨T3, h3, X3, e3, W3, st3⟩ := putF X2 hx hZ hown (host := "") (Or.inl (hw _ (List.mem_of_getElem? (i := 50) rfl))) Via.refl e2 f4 f5 (Or.inr ⟨(hw _ (List.mem_of_getElem? (i := 51) rfl)), rfl, hnm⟩) (hw _ (List.mem_of_getElem? (i := 43) rfl)) (ty := .int) (by decide) rfl rfl (g := (mkF m 36 #[.val (.ref a), .val (.int (Int32.ofNat W)), .val (.int (Int32.ofNat H)), .unset] [(.int (Int32.ofNat H)), (.ref a)])) rfl rfl (hb hby d6_36)
  have F3 := Fld.same W3 f4
  have N3 := Fr.snoc X3 N2 g_a
  have Z3 : n0 ≤ h3.size := Nat.le_trans Z2 (Keep.of_wr W3).1
  have K3 : Keep hI h3 [a] := K2.wr W3 (Or.inl (List.mem_of_getElem? (i := 0) rfl))
  refine Go.step (st3) ?_
  show Go _ _ _ _ _ _ _ T3 (mkF m 39 #[_, _, _, _] [])
  refine Go.step (fun tt kk => XS.aloadN X3.here hx rfl (hb hby d6_39) rfl rfl kk) ?_
  show Go _ _ _ _ _ _ _ T3 (mkF m 40 #[_, _, _, _] [(.ref a)])
  refine Go.step (fun tt kk => XS.iloadN X3.here hx rfl (hb hby d6_40) rfl kk) ?_
  show Go _ _ _ _ _ _ _ T3 (mkF m 41 #[_, _, _, _] [(.int (Int32.ofNat W)), (.ref a)])
  refine Go.step (fun tt kk => XS.iloadN X3.here hx rfl (hb hby d6_41) rfl kk) ?_
  show Go _ _ _ _ _ _ _ T3 (mkF m 42 #[_, _, _, _] [(.int (Int32.ofNat H)), (.int (Int32.ofNat W)), (.ref a)])
  obtain ⟨v6, T6, L6, X6, q6, st6⟩ := c_static X3 hx hZ hown (y := (⟨"java/lang/Math", "multiplyExact", "(II)I"⟩ : MethodName)) (hw _ (List.mem_of_getElem? (i := 52) rfl)) (hw _ (List.mem_of_getElem? (i := 53) rfl)) (hw _ (List.mem_of_getElem? (i := 21) rfl)) (hw _ (List.mem_of_getElem? (i := 54) rfl)) (by decide) (argsL := [(.int (Int32.ofNat W)), (.int (Int32.ofNat H))]) (rest := [(.ref a)]) (rmme l Z a0 hw [] W H h3 n0 Z3 hW hH) e3 pd_0 rfl (by rw [hml]; rfl) (W := 1) (by show 2 * 0 + _ ≤ _; exact Nat.le_of_eq rfl) (by decide) (by decide) (by decide) (by decide) (hb hby d6_42) (Ls := #[.val (.ref a), .val (.int (Int32.ofNat W)), .val (.int (Int32.ofNat H)), .unset])
  obtain ⟨rfl, rfl, e6⟩ := q6
  have N6 := Fr.app N3 (Fr.nil n0)
  refine Go.step (st6) ?_
  show Go _ _ _ _ _ _ _ T6 (mkF m 45 #[_, _, _, _] [(.int (Int32.ofNat (W * H))), (.ref a)])
  obtain ⟨T7, h7, k7, X7, e7, E7, A7, EA7, st7⟩ := newPE X6 hx hZ (hw _ (List.mem_of_getElem? (i := 55) rfl)) e6 (g := (mkF m 45 #[.val (.ref a), .val (.int (Int32.ofNat W)), .val (.int (Int32.ofNat H)), .unset] [(.int (Int32.ofNat (W * H))), (.ref a)])) rfl (hb hby d6_45) rfl (own_nn (W * H) (by omega)) (cap := 16384) (by rw [clamp_of (k := W * H) (Int32.toInt_ofNat_of_lt (by omega))]; omega) (by decide) (by decide) (by decide) (ad := "[B") rfl
  obtain ⟨b7, g7⟩ : ∃ z, z = h3.size := ⟨_, rfl⟩
  rw [← g7] at A7 EA7 st7
  have f8 := (Exa.wr W3 f5)
  have ne_a_b7 : a ≠ b7 := Nat.ne_of_lt (Nat.lt_of_lt_of_le f8.lt (Nat.le_of_eq g7.symm))
  have gn_b7 : n0 ≤ b7 := Nat.le_trans Z3 (Nat.le_of_eq g7.symm)
  have sz_b7 : hI.size ≤ b7 := Nat.le_trans K3.1 (Nat.le_of_eq g7.symm)
  have Z7 : n0 ≤ h7.size := Nat.le_trans Z3 E7.1
  have K7 : Keep hI h7 [a] := K3.ext E7
  have V7 : AV Z h7 b7 .byte (W * H) (fun _ => (.int (0 : Int32))) := AV.new A7 (Int32.toInt_ofNat_of_lt (by omega))
  refine Go.step (st7) ?_
  show Go _ _ _ _ _ _ _ T7 (mkF m 47 #[_, _, _, _] [(.ref b7), (.ref a)])
  have f10 := (Fld.ext E7 (Fld.other W3 (Fld.other W2 F_2 (Or.inr (slot_ne (Or.inr (hw _ (List.mem_of_getElem? (i := 57) rfl))) (Or.inr (hw _ (List.mem_of_getElem? (i := 49) rfl))) (by decide) (t := (.array .byte)) (t' := .int) (by decide) (by decide)))) (Or.inr (slot_ne (Or.inr (hw _ (List.mem_of_getElem? (i := 57) rfl))) (Or.inr (hw _ (List.mem_of_getElem? (i := 51) rfl))) (by decide) (t := (.array .byte)) (t' := .int) (by decide) (by decide)))))
  have f11 := (Exa.ext E7 f8)
  obtain ⟨T9, h9, X9, e9, W9, st9⟩ := putF X7 hx hZ hown (host := "") (Or.inl (hw _ (List.mem_of_getElem? (i := 56) rfl))) Via.refl e7 f10 f11 (Or.inr ⟨(hw _ (List.mem_of_getElem? (i := 57) rfl)), rfl, hnm⟩) (hw _ (List.mem_of_getElem? (i := 43) rfl)) (ty := (.array .byte)) (by decide) rfl rfl (g := (mkF m 47 #[.val (.ref a), .val (.int (Int32.ofNat W)), .val (.int (Int32.ofNat H)), .unset] [(.ref b7), (.ref a)])) rfl rfl (hb hby d6_47)
  have F9 := Fld.same W9 f10
  have N9 := Fr.snoc X9 N6 g_a
  have Z9 : n0 ≤ h9.size := Nat.le_trans Z7 (Keep.of_wr W9).1
  have K9 : Keep hI h9 [a] := K7.wr W9 (Or.inl (List.mem_of_getElem? (i := 0) rfl))
  refine Go.step (st9) ?_
  show Go _ _ _ _ _ _ _ T9 (mkF m 50 #[_, _, _, _] [])
  refine Go.step (fun tt kk => XS.aloadN X9.here hx rfl (hb hby d6_50) rfl rfl kk) ?_
  show Go _ _ _ _ _ _ _ T9 (mkF m 51 #[_, _, _, _] [(.ref a)])
  obtain ⟨T12, X12, e12, st12⟩ := getF X9 hx hZ hown (host := "") (Or.inl (hw _ (List.mem_of_getElem? (i := 56) rfl))) Via.refl e9 F9 (g := (mkF m 51 #[.val (.ref a), .val (.int (Int32.ofNat W)), .val (.int (Int32.ofNat H)), .unset] [(.ref a)])) rfl rfl (hb hby d6_51)
  refine Go.step (st12) ?_
  show Go _ _ _ _ _ _ _ T12 (mkF m 54 #[_, _, _, _] [(.ref b7)])
  have f13 := (V7.other W9 (Ne.symm ne_a_b7))
  refine Go.step (a_len X12 hx hZ e12 f13 (z := (Int32.ofNat (W * H))) (Int32.toInt_ofNat_of_lt (by omega)) (hb hby d6_54)) ?_
  show Go _ _ _ _ _ _ _ T12 (mkF m 55 #[_, _, _, _] [(.int (Int32.ofNat (W * H)))])
  refine Go.step (fun tt kk => XS.i2l X12.here hx rfl (hb hby d6_55) rfl kk) ?_
  show Go _ _ _ _ _ _ _ T12 (mkF m 56 #[_, _, _, _] [(.long ((Int32.ofNat (W * H)).toInt64))])
  refine Go.step (fun tt kk => XS.iloadN X12.here hx rfl (hb hby d6_56) rfl kk) ?_
  show Go _ _ _ _ _ _ _ T12 (mkF m 57 #[_, _, _, _] [(.int (Int32.ofNat W)), (.long ((Int32.ofNat (W * H)).toInt64))])
  refine Go.step (fun tt kk => XS.i2l X12.here hx rfl (hb hby d6_57) rfl kk) ?_
  show Go _ _ _ _ _ _ _ T12 (mkF m 58 #[_, _, _, _] [(.long ((Int32.ofNat W).toInt64)), (.long ((Int32.ofNat (W * H)).toInt64))])
  refine Go.step (fun tt kk => XS.lmul X12.here hx rfl (hb hby d6_58) rfl kk) ?_
  show Go _ _ _ _ _ _ _ T12 (mkF m 59 #[_, _, _, _] [(.long (((Int32.ofNat (W * H)).toInt64) * ((Int32.ofNat W).toInt64)))])
  refine Go.step (X12.ldc2Long hx hown (mvT hZ (hw _ (List.mem_of_getElem? (i := 58) rfl))) (g := (mkF m 59 #[.val (.ref a), .val (.int (Int32.ofNat W)), .val (.int (Int32.ofNat H)), .unset] [(.long (((Int32.ofNat (W * H)).toInt64) * ((Int32.ofNat W).toInt64)))])) rfl (hb hby d6_59)) ?_
  show Go _ _ _ _ _ _ _ T12 (mkF m 62 #[_, _, _, _] [(.long (1099511627776 : Int64)), (.long (((Int32.ofNat (W * H)).toInt64) * ((Int32.ofNat W).toInt64)))])
  refine Go.step (fun tt kk => XS.lcmp X12.here hx rfl (hb hby d6_62) rfl kk) ?_
  show Go _ _ _ _ _ _ _ T12 (mkF m 63 #[_, _, _, _] [(.int (lcmpW (((Int32.ofNat (W * H)).toInt64) * ((Int32.ofNat W).toInt64)) (1099511627776 : Int64)))])
  obtain ⟨q63, hq63⟩ : ∃ q : Bool, q = true ↔ ((((Int32.ofNat (W * H)).toInt64) * ((Int32.ofNat W).toInt64)) < (1099511627776 : Int64)) := ⟨decide ((((Int32.ofNat (W * H)).toInt64) * ((Int32.ofNat W).toInt64)) < (1099511627776 : Int64)), decide_eq_true_iff⟩
  have j63 : Go p e s below 3 17408 (fun v h L => v = none ∧ Fr n0 L ∧ Keep h0 h [a] ∧ Exa Z h a "com/example/gridwright/gridwright/engine/Grid" ∧ Fld Z h a "com/example/gridwright/gridwright/engine/Grid" "width" "I" (.int (Int32.ofNat W)) ∧ Fld Z h a "com/example/gridwright/gridwright/engine/Grid" "height" "I" (.int (Int32.ofNat H))) T12 (mkF m 71 #[.val (.ref a), .val (.int (Int32.ofNat W)), .val (.int (Int32.ofNat H)), .unset] [(.int (bi (q63 = true)))]) := by
    refine Go.step (fun tt kk => XS.istoreN X12.here hx rfl (hb hby d6_71) rfl (l' := #[.val (.ref a), .val (.int (Int32.ofNat W)), .val (.int (Int32.ofNat H)), .val (.int (bi (q63 = true)))]) rfl kk) ?_
    show Go _ _ _ _ _ _ _ T12 (mkF m 72 #[_, _, _, _] [])
    refine Go.step (fun tt kk => XS.aloadN X12.here hx rfl (hb hby d6_72) rfl rfl kk) ?_
    show Go _ _ _ _ _ _ _ T12 (mkF m 73 #[_, _, _, _] [(.ref a)])
    refine Go.step (fun tt kk => XS.iloadN X12.here hx rfl (hb hby d6_73) rfl kk) ?_
    show Go _ _ _ _ _ _ _ T12 (mkF m 74 #[_, _, _, _] [(.int (bi (q63 = true))), (.ref a)])
    have j74 : ∀ z : Int64, Go p e s below 3 17408 (fun v h L => v = none ∧ Fr n0 L ∧ Keep h0 h [a] ∧ Exa Z h a "com/example/gridwright/gridwright/engine/Grid" ∧ Fld Z h a "com/example/gridwright/gridwright/engine/Grid" "width" "I" (.int (Int32.ofNat W)) ∧ Fld Z h a "com/example/gridwright/gridwright/engine/Grid" "height" "I" (.int (Int32.ofNat H))) T12 (mkF m 92 #[.val (.ref a), .val (.int (Int32.ofNat W)), .val (.int (Int32.ofNat H)), .val (.int (bi (q63 = true)))] [(.long z), (.ref a)]) := by
      intro z
      have f15 := (Fld.other W9 (Fld.ext E7 (Fld.other W3 (Fld.other W2 F_3 (Or.inr (slot_ne (Or.inr (hw _ (List.mem_of_getElem? (i := 60) rfl))) (Or.inr (hw _ (List.mem_of_getElem? (i := 49) rfl))) (by decide) (t := .long) (t' := .int) (by decide) (by decide)))) (Or.inr (slot_ne (Or.inr (hw _ (List.mem_of_getElem? (i := 60) rfl))) (Or.inr (hw _ (List.mem_of_getElem? (i := 51) rfl))) (by decide) (t := .long) (t' := .int) (by decide) (by decide))))) (Or.inr (slot_ne (Or.inr (hw _ (List.mem_of_getElem? (i := 60) rfl))) (Or.inr (hw _ (List.mem_of_getElem? (i := 57) rfl))) (by decide) (t := .long) (t' := (.array .byte)) (by decide) (by decide))))
      have f16 := (Exa.wr W9 f11)
      obtain ⟨T14, h14, X14, e14, W14, st14⟩ := putF X12 hx hZ hown (host := "") (Or.inl (hw _ (List.mem_of_getElem? (i := 59) rfl))) Via.refl e12 f15 f16 (Or.inr ⟨(hw _ (List.mem_of_getElem? (i := 60) rfl)), rfl, hnm⟩) (hw _ (List.mem_of_getElem? (i := 43) rfl)) (ty := .long) (by decide) rfl rfl (g := (mkF m 92 #[.val (.ref a), .val (.int (Int32.ofNat W)), .val (.int (Int32.ofNat H)), .val (.int (bi (q63 = true)))] [(.long z), (.ref a)])) rfl rfl (hb hby d6_92)
      have F14 := Fld.same W14 f15
      have N14 := Fr.snoc X14 N9 g_a
      have Z14 : n0 ≤ h14.size := Nat.le_trans Z9 (Keep.of_wr W14).1
      have K14 : Keep hI h14 [a] := K9.wr W14 (Or.inl (List.mem_of_getElem? (i := 0) rfl))
      refine Go.step (st14) ?_
      show Go _ _ _ _ _ _ _ T14 (mkF m 95 #[_, _, _, _] [])
      refine Go.step (fun tt kk => XS.aloadN X14.here hx rfl (hb hby d6_95) rfl rfl kk) ?_
      show Go _ _ _ _ _ _ _ T14 (mkF m 96 #[_, _, _, _] [(.ref a)])
      refine Go.step (fun tt kk => XS.iloadN X14.here hx rfl (hb hby d6_96) rfl kk) ?_
      show Go _ _ _ _ _ _ _ T14 (mkF m 97 #[_, _, _, _] [(.int (Int32.ofNat W)), (.ref a)])
      refine Go.step (fun tt kk => XS.iloadN X14.here hx rfl (hb hby d6_97) rfl kk) ?_
      show Go _ _ _ _ _ _ _ T14 (mkF m 98 #[_, _, _, _] [(.int (Int32.ofNat H)), (.int (Int32.ofNat W)), (.ref a)])
      obtain ⟨v17, T17, L17, X17, q17, st17⟩ := c_static X14 hx hZ hown (y := (⟨"java/lang/Math", "max", "(II)I"⟩ : MethodName)) (hw _ (List.mem_of_getElem? (i := 61) rfl)) (hw _ (List.mem_of_getElem? (i := 20) rfl)) (hw _ (List.mem_of_getElem? (i := 21) rfl)) (hw _ (List.mem_of_getElem? (i := 22) rfl)) (by decide) (argsL := [(.int (Int32.ofNat W)), (.int (Int32.ofNat H))]) (rest := [(.ref a)]) (rmmx l Z a0 hw [] (Int32.ofNat W) (Int32.ofNat H) h14 n0 Z14) e14 pd_0 rfl (by rw [hml]; rfl) (W := 1) (by show 2 * 0 + _ ≤ _; exact Nat.le_of_eq rfl) (by decide) (by decide) (by decide) (by decide) (hb hby d6_98) (Ls := #[.val (.ref a), .val (.int (Int32.ofNat W)), .val (.int (Int32.ofNat H)), .val (.int (bi (q63 = true)))])
      obtain ⟨rfl, rfl, e17⟩ := q17
      have N17 := Fr.app N14 (Fr.nil n0)
      refine Go.step (st17) ?_
      show Go _ _ _ _ _ _ _ T17 (mkF m 101 #[_, _, _, _] [(.int (mx (Int32.ofNat W) (Int32.ofNat H))), (.ref a)])
      rw [own_max _ _ (by omega) (by omega)]
      show Go _ _ _ _ _ _ _ T17 (mkF m 101 #[.val (.ref a), .val (.int (Int32.ofNat W)), .val (.int (Int32.ofNat H)), .val (.int (bi (q63 = true)))] [(.int (Int32.ofNat (max W H))), (.ref a)])
      obtain ⟨v18, T18, L18, X18, q18, st18⟩ := c_static X17 hx hZ hown (y := (⟨"com/example/gridwright/gridwright/engine/Grid", "wordsFor", "(I)I"⟩ : MethodName)) (hw _ (List.mem_of_getElem? (i := 62) rfl)) (hw _ (List.mem_of_getElem? (i := 24) rfl)) (hw _ (List.mem_of_getElem? (i := 25) rfl)) (hw _ (List.mem_of_getElem? (i := 26) rfl)) (by decide) (argsL := [(.int (Int32.ofNat (max W H)))]) (rest := [(.ref a)]) (rmwf l Z a0 hw [] (Int32.ofNat (max W H)) h14 n0 Z14) e17 pd_1 rfl (by rw [hml]; rfl) (W := 1) (by show 2 * 0 + _ ≤ _; exact Nat.le_of_eq rfl) (by decide) (by decide) (by decide) (by decide) (hb hby d6_101) (Ls := #[.val (.ref a), .val (.int (Int32.ofNat W)), .val (.int (Int32.ofNat H)), .val (.int (bi (q63 = true)))])
      obtain ⟨rfl, rfl, e18⟩ := q18
      have N18 := Fr.app N17 (Fr.nil n0)
      refine Go.step (st18) ?_
      show Go _ _ _ _ _ _ _ T18 (mkF m 104 #[_, _, _, _] [(.int (wf (Int32.ofNat (max W H)))), (.ref a)])
      rw [own_wf _ (by omega)]
      show Go _ _ _ _ _ _ _ T18 (mkF m 104 #[.val (.ref a), .val (.int (Int32.ofNat W)), .val (.int (Int32.ofNat H)), .val (.int (bi (q63 = true)))] [(.int (Int32.ofNat ((max W H + 63) / 64))), (.ref a)])
      have f20 := (Fld.other W14 (Fld.other W9 (Fld.ext E7 (Fld.other W3 (Fld.other W2 F_4 (Or.inr (slot_ne (Or.inr (hw _ (List.mem_of_getElem? (i := 64) rfl))) (Or.inr (hw _ (List.mem_of_getElem? (i := 49) rfl))) (by decide) (t := .int) (t' := .int) (by decide) (by decide)))) (Or.inr (slot_ne (Or.inr (hw _ (List.mem_of_getElem? (i := 64) rfl))) (Or.inr (hw _ (List.mem_of_getElem? (i := 51) rfl))) (by decide) (t := .int) (t' := .int) (by decide) (by decide))))) (Or.inr (slot_ne (Or.inr (hw _ (List.mem_of_getElem? (i := 64) rfl))) (Or.inr (hw _ (List.mem_of_getElem? (i := 57) rfl))) (by decide) (t := .int) (t' := (.array .byte)) (by decide) (by decide)))) (Or.inr (slot_ne (Or.inr (hw _ (List.mem_of_getElem? (i := 64) rfl))) (Or.inr (hw _ (List.mem_of_getElem? (i := 60) rfl))) (by decide) (t := .int) (t' := .long) (by decide) (by decide))))
      have f21 := (Exa.wr W14 f16)
      obtain ⟨T19, h19, X19, e19, W19, st19⟩ := putF X18 hx hZ hown (host := "") (Or.inl (hw _ (List.mem_of_getElem? (i := 63) rfl))) Via.refl e18 f20 f21 (Or.inr ⟨(hw _ (List.mem_of_getElem? (i := 64) rfl)), rfl, hnm⟩) (hw _ (List.mem_of_getElem? (i := 43) rfl)) (ty := .int) (by decide) rfl rfl (g := (mkF m 104 #[.val (.ref a), .val (.int (Int32.ofNat W)), .val (.int (Int32.ofNat H)), .val (.int (bi (q63 = true)))] [(.int (Int32.ofNat ((max W H + 63) / 64))), (.ref a)])) rfl rfl (hb hby d6_104)
      have F19 := Fld.same W19 f20
      have N19 := Fr.snoc X19 N18 g_a
      have Z19 : n0 ≤ h19.size := Nat.le_trans Z14 (Keep.of_wr W19).1
      have K19 : Keep hI h19 [a] := K14.wr W19 (Or.inl (List.mem_of_getElem? (i := 0) rfl))
      refine Go.step (st19) ?_
      show Go _ _ _ _ _ _ _ T19 (mkF m 107 #[_, _, _, _] [])
      refine Go.step (fun tt kk => XS.aloadN X19.here hx rfl (hb hby d6_107) rfl rfl kk) ?_
      show Go _ _ _ _ _ _ _ T19 (mkF m 108 #[_, _, _, _] [(.ref a)])
      refine Go.step (fun tt kk => XS.iloadN X19.here hx rfl (hb hby d6_108) rfl kk) ?_
      show Go _ _ _ _ _ _ _ T19 (mkF m 109 #[_, _, _, _] [(.int (Int32.ofNat W)), (.ref a)])
      refine Go.step (fun tt kk => XS.iloadN X19.here hx rfl (hb hby d6_109) rfl kk) ?_
      show Go _ _ _ _ _ _ _ T19 (mkF m 110 #[_, _, _, _] [(.int (Int32.ofNat H)), (.int (Int32.ofNat W)), (.ref a)])
      refine Go.step (fun tt kk => XS.iadd X19.here hx rfl (hb hby d6_110) rfl kk) ?_
      show Go _ _ _ _ _ _ _ T19 (mkF m 111 #[_, _, _, _] [(.int ((Int32.ofNat W) + (Int32.ofNat H))), (.ref a)])
      refine Go.step (fun tt kk => XS.aloadN X19.here hx rfl (hb hby d6_111) rfl rfl kk) ?_
      show Go _ _ _ _ _ _ _ T19 (mkF m 112 #[_, _, _, _] [(.ref a), (.int ((Int32.ofNat W) + (Int32.ofNat H))), (.ref a)])
      obtain ⟨T22, X22, e22, st22⟩ := getF X19 hx hZ hown (host := "") (Or.inl (hw _ (List.mem_of_getElem? (i := 63) rfl))) Via.refl e19 F19 (g := (mkF m 112 #[.val (.ref a), .val (.int (Int32.ofNat W)), .val (.int (Int32.ofNat H)), .val (.int (bi (q63 = true)))] [(.ref a), (.int ((Int32.ofNat W) + (Int32.ofNat H))), (.ref a)])) rfl rfl (hb hby d6_112)
      refine Go.step (st22) ?_
      show Go _ _ _ _ _ _ _ T22 (mkF m 115 #[_, _, _, _] [(.int (Int32.ofNat ((max W H + 63) / 64))), (.int ((Int32.ofNat W) + (Int32.ofNat H))), (.ref a)])
      refine Go.step (fun tt kk => XS.imul X22.here hx rfl (hb hby d6_115) rfl kk) ?_
      show Go _ _ _ _ _ _ _ T22 (mkF m 116 #[_, _, _, _] [(.int (((Int32.ofNat W) + (Int32.ofNat H)) * (Int32.ofNat ((max W H + 63) / 64)))), (.ref a)])
      rw [← Int32.ofNat_add, ← Int32.ofNat_mul]
      show Go _ _ _ _ _ _ _ T22 (mkF m 116 #[.val (.ref a), .val (.int (Int32.ofNat W)), .val (.int (Int32.ofNat H)), .val (.int (bi (q63 = true)))] [(.int (Int32.ofNat ((W + H) * ((max W H + 63) / 64)))), (.ref a)])
      obtain ⟨T23, h23, k23, X23, e23, E23, A23, EA23, st23⟩ := newPE X22 hx hZ (hw _ (List.mem_of_getElem? (i := 29) rfl)) e22 (g := (mkF m 116 #[.val (.ref a), .val (.int (Int32.ofNat W)), .val (.int (Int32.ofNat H)), .val (.int (bi (q63 = true)))] [(.int (Int32.ofNat ((W + H) * ((max W H + 63) / 64)))), (.ref a)])) rfl (hb hby d6_116) rfl (own_nn ((W + H) * ((max W H + 63) / 64)) (by omega)) (cap := 512) (by rw [clamp_of (k := ((W + H) * ((max W H + 63) / 64))) (Int32.toInt_ofNat_of_lt (by omega))]; omega) (by decide) (by decide) (by decide) (ad := "[J") rfl
      obtain ⟨b23, g23⟩ : ∃ z, z = h19.size := ⟨_, rfl⟩
      rw [← g23] at A23 EA23 st23
      have f24 := (Exa.wr W19 f21)
      have ne_a_b23 : a ≠ b23 := Nat.ne_of_lt (Nat.lt_of_lt_of_le f24.lt (Nat.le_of_eq g23.symm))
      have f25 := (Exa.wr W19 (Exa.wr W14 (Exa.wr W9 EA7)))
      have ne_b7_b23 : b7 ≠ b23 := Nat.ne_of_lt (Nat.lt_of_lt_of_le f25.lt (Nat.le_of_eq g23.symm))
      have gn_b23 : n0 ≤ b23 := Nat.le_trans Z19 (Nat.le_of_eq g23.symm)
      have sz_b23 : hI.size ≤ b23 := Nat.le_trans K19.1 (Nat.le_of_eq g23.symm)
      have Z23 : n0 ≤ h23.size := Nat.le_trans Z19 E23.1
      have K23 : Keep hI h23 [a] := K19.ext E23
      have V23 : AV Z h23 b23 .long ((W + H) * ((max W H + 63) / 64)) (fun _ => (.long (0 : Int64))) := AV.new A23 (Int32.toInt_ofNat_of_lt (by omega))
      refine Go.step (st23) ?_
      show Go _ _ _ _ _ _ _ T23 (mkF m 118 #[_, _, _, _] [(.ref b23), (.ref a)])
      have f27 := (Fld.ext E23 (Fld.other W19 (Fld.other W14 (Fld.other W9 (Fld.ext E7 (Fld.other W3 (Fld.other W2 F_5 (Or.inr (slot_ne (Or.inr (hw _ (List.mem_of_getElem? (i := 66) rfl))) (Or.inr (hw _ (List.mem_of_getElem? (i := 49) rfl))) (by decide) (t := (.array .long)) (t' := .int) (by decide) (by decide)))) (Or.inr (slot_ne (Or.inr (hw _ (List.mem_of_getElem? (i := 66) rfl))) (Or.inr (hw _ (List.mem_of_getElem? (i := 51) rfl))) (by decide) (t := (.array .long)) (t' := .int) (by decide) (by decide))))) (Or.inr (slot_ne (Or.inr (hw _ (List.mem_of_getElem? (i := 66) rfl))) (Or.inr (hw _ (List.mem_of_getElem? (i := 57) rfl))) (by decide) (t := (.array .long)) (t' := (.array .byte)) (by decide) (by decide)))) (Or.inr (slot_ne (Or.inr (hw _ (List.mem_of_getElem? (i := 66) rfl))) (Or.inr (hw _ (List.mem_of_getElem? (i := 60) rfl))) (by decide) (t := (.array .long)) (t' := .long) (by decide) (by decide)))) (Or.inr (slot_ne (Or.inr (hw _ (List.mem_of_getElem? (i := 66) rfl))) (Or.inr (hw _ (List.mem_of_getElem? (i := 64) rfl))) (by decide) (t := (.array .long)) (t' := .int) (by decide) (by decide)))))
      have f28 := (Exa.ext E23 f24)
      obtain ⟨T26, h26, X26, e26, W26, st26⟩ := putF X23 hx hZ hown (host := "") (Or.inl (hw _ (List.mem_of_getElem? (i := 65) rfl))) Via.refl e23 f27 f28 (Or.inr ⟨(hw _ (List.mem_of_getElem? (i := 66) rfl)), rfl, hnm⟩) (hw _ (List.mem_of_getElem? (i := 43) rfl)) (ty := (.array .long)) (by decide) rfl rfl (g := (mkF m 118 #[.val (.ref a), .val (.int (Int32.ofNat W)), .val (.int (Int32.ofNat H)), .val (.int (bi (q63 = true)))] [(.ref b23), (.ref a)])) rfl rfl (hb hby d6_118)
      have F26 := Fld.same W26 f27
      have N26 := Fr.snoc X26 N19 g_a
      have Z26 : n0 ≤ h26.size := Nat.le_trans Z23 (Keep.of_wr W26).1
      have K26 : Keep hI h26 [a] := K23.wr W26 (Or.inl (List.mem_of_getElem? (i := 0) rfl))
      refine Go.step (st26) ?_
      show Go _ _ _ _ _ _ _ T26 (mkF m 121 #[_, _, _, _] [])
      refine Go.step (fun tt kk => XS.aloadN X26.here hx rfl (hb hby d6_121) rfl rfl kk) ?_
      show Go _ _ _ _ _ _ _ T26 (mkF m 122 #[_, _, _, _] [(.ref a)])
      refine Go.step (fun tt kk => XS.iloadN X26.here hx rfl (hb hby d6_122) rfl kk) ?_
      show Go _ _ _ _ _ _ _ T26 (mkF m 123 #[_, _, _, _] [(.int (Int32.ofNat W)), (.ref a)])
      refine Go.step (fun tt kk => XS.iloadN X26.here hx rfl (hb hby d6_123) rfl kk) ?_
      show Go _ _ _ _ _ _ _ T26 (mkF m 124 #[_, _, _, _] [(.int (Int32.ofNat H)), (.int (Int32.ofNat W)), (.ref a)])
      refine Go.step (fun tt kk => XS.iadd X26.here hx rfl (hb hby d6_124) rfl kk) ?_
      show Go _ _ _ _ _ _ _ T26 (mkF m 125 #[_, _, _, _] [(.int ((Int32.ofNat W) + (Int32.ofNat H))), (.ref a)])
      refine Go.step (fun tt kk => XS.aloadN X26.here hx rfl (hb hby d6_125) rfl rfl kk) ?_
      show Go _ _ _ _ _ _ _ T26 (mkF m 126 #[_, _, _, _] [(.ref a), (.int ((Int32.ofNat W) + (Int32.ofNat H))), (.ref a)])
      have f30 := (Fld.other W26 (Fld.ext E23 F19) (Or.inr (slot_ne (Or.inr (hw _ (List.mem_of_getElem? (i := 64) rfl))) (Or.inr (hw _ (List.mem_of_getElem? (i := 66) rfl))) (by decide) (t := .int) (t' := (.array .long)) (by decide) (by decide))))
      obtain ⟨T29, X29, e29, st29⟩ := getF X26 hx hZ hown (host := "") (Or.inl (hw _ (List.mem_of_getElem? (i := 63) rfl))) Via.refl e26 f30 (g := (mkF m 126 #[.val (.ref a), .val (.int (Int32.ofNat W)), .val (.int (Int32.ofNat H)), .val (.int (bi (q63 = true)))] [(.ref a), (.int ((Int32.ofNat W) + (Int32.ofNat H))), (.ref a)])) rfl rfl (hb hby d6_126)
      refine Go.step (st29) ?_
      show Go _ _ _ _ _ _ _ T29 (mkF m 129 #[_, _, _, _] [(.int (Int32.ofNat ((max W H + 63) / 64))), (.int ((Int32.ofNat W) + (Int32.ofNat H))), (.ref a)])
      refine Go.step (fun tt kk => XS.imul X29.here hx rfl (hb hby d6_129) rfl kk) ?_
      show Go _ _ _ _ _ _ _ T29 (mkF m 130 #[_, _, _, _] [(.int (((Int32.ofNat W) + (Int32.ofNat H)) * (Int32.ofNat ((max W H + 63) / 64)))), (.ref a)])
      rw [← Int32.ofNat_add, ← Int32.ofNat_mul]
      show Go _ _ _ _ _ _ _ T29 (mkF m 130 #[.val (.ref a), .val (.int (Int32.ofNat W)), .val (.int (Int32.ofNat H)), .val (.int (bi (q63 = true)))] [(.int (Int32.ofNat ((W + H) * ((max W H + 63) / 64)))), (.ref a)])
      obtain ⟨T31, h31, k31, X31, e31, E31, A31, EA31, st31⟩ := newPE X29 hx hZ (hw _ (List.mem_of_getElem? (i := 29) rfl)) e29 (g := (mkF m 130 #[.val (.ref a), .val (.int (Int32.ofNat W)), .val (.int (Int32.ofNat H)), .val (.int (bi (q63 = true)))] [(.int (Int32.ofNat ((W + H) * ((max W H + 63) / 64)))), (.ref a)])) rfl (hb hby d6_130) rfl (own_nn ((W + H) * ((max W H + 63) / 64)) (by omega)) (cap := 512) (by rw [clamp_of (k := ((W + H) * ((max W H + 63) / 64))) (Int32.toInt_ofNat_of_lt (by omega))]; omega) (by decide) (by decide) (by decide) (ad := "[J") rfl
      obtain ⟨b31, g31⟩ : ∃ z, z = h26.size := ⟨_, rfl⟩
      rw [← g31] at A31 EA31 st31
      have f32 := (Exa.wr W26 f28)
      have ne_a_b31 : a ≠ b31 := Nat.ne_of_lt (Nat.lt_of_lt_of_le f32.lt (Nat.le_of_eq g31.symm))
      have f33 := (Exa.wr W26 (Exa.ext E23 f25))
      have ne_b7_b31 : b7 ≠ b31 := Nat.ne_of_lt (Nat.lt_of_lt_of_le f33.lt (Nat.le_of_eq g31.symm))
      have f34 := (Exa.wr W26 EA23)
      have ne_b23_b31 : b23 ≠ b31 := Nat.ne_of_lt (Nat.lt_of_lt_of_le f34.lt (Nat.le_of_eq g31.symm))
      have gn_b31 : n0 ≤ b31 := Nat.le_trans Z26 (Nat.le_of_eq g31.symm)
      have sz_b31 : hI.size ≤ b31 := Nat.le_trans K26.1 (Nat.le_of_eq g31.symm)
      have Z31 : n0 ≤ h31.size := Nat.le_trans Z26 E31.1
      have K31 : Keep hI h31 [a] := K26.ext E31
      have V31 : AV Z h31 b31 .long ((W + H) * ((max W H + 63) / 64)) (fun _ => (.long (0 : Int64))) := AV.new A31 (Int32.toInt_ofNat_of_lt (by omega))
      refine Go.step (st31) ?_
      show Go _ _ _ _ _ _ _ T31 (mkF m 132 #[_, _, _, _] [(.ref b31), (.ref a)])
      have f36 := (Fld.ext E31 (Fld.other W26 (Fld.ext E23 (Fld.other W19 (Fld.other W14 (Fld.other W9 (Fld.ext E7 (Fld.other W3 (Fld.other W2 F_6 (Or.inr (slot_ne (Or.inr (hw _ (List.mem_of_getElem? (i := 68) rfl))) (Or.inr (hw _ (List.mem_of_getElem? (i := 49) rfl))) (by decide) (t := (.array .long)) (t' := .int) (by decide) (by decide)))) (Or.inr (slot_ne (Or.inr (hw _ (List.mem_of_getElem? (i := 68) rfl))) (Or.inr (hw _ (List.mem_of_getElem? (i := 51) rfl))) (by decide) (t := (.array .long)) (t' := .int) (by decide) (by decide))))) (Or.inr (slot_ne (Or.inr (hw _ (List.mem_of_getElem? (i := 68) rfl))) (Or.inr (hw _ (List.mem_of_getElem? (i := 57) rfl))) (by decide) (t := (.array .long)) (t' := (.array .byte)) (by decide) (by decide)))) (Or.inr (slot_ne (Or.inr (hw _ (List.mem_of_getElem? (i := 68) rfl))) (Or.inr (hw _ (List.mem_of_getElem? (i := 60) rfl))) (by decide) (t := (.array .long)) (t' := .long) (by decide) (by decide)))) (Or.inr (slot_ne (Or.inr (hw _ (List.mem_of_getElem? (i := 68) rfl))) (Or.inr (hw _ (List.mem_of_getElem? (i := 64) rfl))) (by decide) (t := (.array .long)) (t' := .int) (by decide) (by decide))))) (Or.inr (slot_ne (Or.inr (hw _ (List.mem_of_getElem? (i := 68) rfl))) (Or.inr (hw _ (List.mem_of_getElem? (i := 66) rfl))) (by decide) (t := (.array .long)) (t' := (.array .long)) (by decide) (by decide)))))
      have f37 := (Exa.ext E31 f32)
      obtain ⟨T35, h35, X35, e35, W35, st35⟩ := putF X31 hx hZ hown (host := "") (Or.inl (hw _ (List.mem_of_getElem? (i := 67) rfl))) Via.refl e31 f36 f37 (Or.inr ⟨(hw _ (List.mem_of_getElem? (i := 68) rfl)), rfl, hnm⟩) (hw _ (List.mem_of_getElem? (i := 43) rfl)) (ty := (.array .long)) (by decide) rfl rfl (g := (mkF m 132 #[.val (.ref a), .val (.int (Int32.ofNat W)), .val (.int (Int32.ofNat H)), .val (.int (bi (q63 = true)))] [(.ref b31), (.ref a)])) rfl rfl (hb hby d6_132)
      have F35 := Fld.same W35 f36
      have N35 := Fr.snoc X35 N26 g_a
      have Z35 : n0 ≤ h35.size := Nat.le_trans Z31 (Keep.of_wr W35).1
      have K35 : Keep hI h35 [a] := K31.wr W35 (Or.inl (List.mem_of_getElem? (i := 0) rfl))
      refine Go.step (st35) ?_
      show Go _ _ _ _ _ _ _ T35 (mkF m 135 #[_, _, _, _] [])
      have f38 := (Exa.wr W35 f37)
      have f39 := (Fld.other W35 (Fld.ext E31 (Fld.other W26 (Fld.ext E23 (Fld.other W19 (Fld.other W14 (Fld.other W9 (Fld.ext E7 (Fld.other W3 F2 (Or.inr (slot_ne (Or.inr (hw _ (List.mem_of_getElem? (i := 49) rfl))) (Or.inr (hw _ (List.mem_of_getElem? (i := 51) rfl))) (by decide) (t := .int) (t' := .int) (by decide) (by decide))))) (Or.inr (slot_ne (Or.inr (hw _ (List.mem_of_getElem? (i := 49) rfl))) (Or.inr (hw _ (List.mem_of_getElem? (i := 57) rfl))) (by decide) (t := .int) (t' := (.array .byte)) (by decide) (by decide)))) (Or.inr (slot_ne (Or.inr (hw _ (List.mem_of_getElem? (i := 49) rfl))) (Or.inr (hw _ (List.mem_of_getElem? (i := 60) rfl))) (by decide) (t := .int) (t' := .long) (by decide) (by decide)))) (Or.inr (slot_ne (Or.inr (hw _ (List.mem_of_getElem? (i := 49) rfl))) (Or.inr (hw _ (List.mem_of_getElem? (i := 64) rfl))) (by decide) (t := .int) (t' := .int) (by decide) (by decide))))) (Or.inr (slot_ne (Or.inr (hw _ (List.mem_of_getElem? (i := 49) rfl))) (Or.inr (hw _ (List.mem_of_getElem? (i := 66) rfl))) (by decide) (t := .int) (t' := (.array .long)) (by decide) (by decide))))) (Or.inr (slot_ne (Or.inr (hw _ (List.mem_of_getElem? (i := 49) rfl))) (Or.inr (hw _ (List.mem_of_getElem? (i := 68) rfl))) (by decide) (t := .int) (t' := (.array .long)) (by decide) (by decide))))
      have f40 := (Fld.other W35 (Fld.ext E31 (Fld.other W26 (Fld.ext E23 (Fld.other W19 (Fld.other W14 (Fld.other W9 (Fld.ext E7 F3) (Or.inr (slot_ne (Or.inr (hw _ (List.mem_of_getElem? (i := 51) rfl))) (Or.inr (hw _ (List.mem_of_getElem? (i := 57) rfl))) (by decide) (t := .int) (t' := (.array .byte)) (by decide) (by decide)))) (Or.inr (slot_ne (Or.inr (hw _ (List.mem_of_getElem? (i := 51) rfl))) (Or.inr (hw _ (List.mem_of_getElem? (i := 60) rfl))) (by decide) (t := .int) (t' := .long) (by decide) (by decide)))) (Or.inr (slot_ne (Or.inr (hw _ (List.mem_of_getElem? (i := 51) rfl))) (Or.inr (hw _ (List.mem_of_getElem? (i := 64) rfl))) (by decide) (t := .int) (t' := .int) (by decide) (by decide))))) (Or.inr (slot_ne (Or.inr (hw _ (List.mem_of_getElem? (i := 51) rfl))) (Or.inr (hw _ (List.mem_of_getElem? (i := 66) rfl))) (by decide) (t := .int) (t' := (.array .long)) (by decide) (by decide))))) (Or.inr (slot_ne (Or.inr (hw _ (List.mem_of_getElem? (i := 51) rfl))) (Or.inr (hw _ (List.mem_of_getElem? (i := 68) rfl))) (by decide) (t := .int) (t' := (.array .long)) (by decide) (by decide))))
      refine go_ret X35 hx hret hlk (hb hby d6_135) ?_ (by decide) (by decide)
      try rw [e35]
      exact ⟨rfl, N35, eI ▸ K35, f38, f39, f40⟩
    by_cases c74_41 : q63 = true
    · refine Go.step (fun tt kk => XS.ifNo X12.here hx rfl (hb hby d6_74) rfl ((if0 _ _).trans (feq (bi_n c74_41)).1) kk) ?_
      show Go _ _ _ _ _ _ _ T12 (mkF m 77 #[_, _, _, _] [(.ref a)])
      refine Go.step (X12.ldc2Long hx hown (mvT hZ (hw _ (List.mem_of_getElem? (i := 58) rfl))) (g := (mkF m 77 #[.val (.ref a), .val (.int (Int32.ofNat W)), .val (.int (Int32.ofNat H)), .val (.int (bi (q63 = true)))] [(.ref a)])) rfl (hb hby d6_77)) ?_
      show Go _ _ _ _ _ _ _ T12 (mkF m 80 #[_, _, _, _] [(.long (1099511627776 : Int64)), (.ref a)])
      refine Go.step (fun tt kk => XS.iloadN X12.here hx rfl (hb hby d6_80) rfl kk) ?_
      show Go _ _ _ _ _ _ _ T12 (mkF m 81 #[_, _, _, _] [(.int (Int32.ofNat W)), (.long (1099511627776 : Int64)), (.ref a)])
      refine Go.step (fun tt kk => XS.i2l X12.here hx rfl (hb hby d6_81) rfl kk) ?_
      show Go _ _ _ _ _ _ _ T12 (mkF m 82 #[_, _, _, _] [(.long ((Int32.ofNat W).toInt64)), (.long (1099511627776 : Int64)), (.ref a)])
      refine Go.step (fun tt kk => XS.ladd X12.here hx rfl (hb hby d6_82) rfl kk) ?_
      show Go _ _ _ _ _ _ _ T12 (mkF m 83 #[_, _, _, _] [(.long ((1099511627776 : Int64) + ((Int32.ofNat W).toInt64))), (.ref a)])
      refine Go.step (fun tt kk => XS.lconst X12.here hx rfl (hb hby d6_83) kk) ?_
      show Go _ _ _ _ _ _ _ T12 (mkF m 84 #[_, _, _, _] [(.long (1 : Int64)), (.long ((1099511627776 : Int64) + ((Int32.ofNat W).toInt64))), (.ref a)])
      refine Go.step (fun tt kk => XS.lsub X12.here hx rfl (hb hby d6_84) rfl kk) ?_
      show Go _ _ _ _ _ _ _ T12 (mkF m 85 #[_, _, _, _] [(.long (((1099511627776 : Int64) + ((Int32.ofNat W).toInt64)) - (1 : Int64))), (.ref a)])
      refine Go.step (fun tt kk => XS.iloadN X12.here hx rfl (hb hby d6_85) rfl kk) ?_
      show Go _ _ _ _ _ _ _ T12 (mkF m 86 #[_, _, _, _] [(.int (Int32.ofNat W)), (.long (((1099511627776 : Int64) + ((Int32.ofNat W).toInt64)) - (1 : Int64))), (.ref a)])
      refine Go.step (fun tt kk => XS.i2l X12.here hx rfl (hb hby d6_86) rfl kk) ?_
      show Go _ _ _ _ _ _ _ T12 (mkF m 87 #[_, _, _, _] [(.long ((Int32.ofNat W).toInt64)), (.long (((1099511627776 : Int64) + ((Int32.ofNat W).toInt64)) - (1 : Int64))), (.ref a)])
      refine Go.step (fun tt kk => XS.ldiv X12.here hx rfl (hb hby d6_87) rfl (own_nzL W (by omega) (by omega)) kk) ?_
      show Go _ _ _ _ _ _ _ T12 (mkF m 88 #[_, _, _, _] [(.long ((((1099511627776 : Int64) + ((Int32.ofNat W).toInt64)) - (1 : Int64)) / ((Int32.ofNat W).toInt64))), (.ref a)])
      refine Go.step (fun tt kk => XS.goto X12.here hx rfl (pc0 := 88) (pc' := 92) rfl (hb hby d6_88) (by decide) (by decide) kk) ?_
      show Go _ _ _ _ _ _ _ T12 (mkF m 92 #[_, _, _, _] [(.long ((((1099511627776 : Int64) + ((Int32.ofNat W).toInt64)) - (1 : Int64)) / ((Int32.ofNat W).toInt64))), (.ref a)])
      exact j74 _
    · refine Go.step (fun tt kk => XS.ifYes X12.here hx rfl (pc0 := 74) (pc' := 91) rfl (hb hby d6_74) rfl ((if0 _ _).trans (teq (bi_f c74_41)).1) (by decide) (by decide) kk) ?_
      show Go _ _ _ _ _ _ _ T12 (mkF m 91 #[_, _, _, _] [(.ref a)])
      refine Go.step (fun tt kk => XS.lconst X12.here hx rfl (hb hby d6_91) kk) ?_
      show Go _ _ _ _ _ _ _ T12 (mkF m 92 #[_, _, _, _] [(.long (0 : Int64)), (.ref a)])
      exact j74 _
  by_cases c63_42 : (((Int32.ofNat (W * H)).toInt64) * ((Int32.ofNat W).toInt64)) < (1099511627776 : Int64)
  · refine Go.step (fun tt kk => XS.ifNo X12.here hx rfl (hb hby d6_63) rfl ((if0 _ _).trans (tlt ((lw_lt _ _).mpr c63_42)).2.1) kk) ?_
    show Go _ _ _ _ _ _ _ T12 (mkF m 66 #[_, _, _, _] [])
    refine Go.step (fun tt kk => XS.iconst X12.here hx rfl (hb hby d6_66) kk) ?_
    show Go _ _ _ _ _ _ _ T12 (mkF m 67 #[_, _, _, _] [(.int (1 : Int32))])
    refine Go.step (fun tt kk => XS.goto X12.here hx rfl (pc0 := 67) (pc' := 71) rfl (hb hby d6_67) (by decide) (by decide) kk) ?_
    show Go _ _ _ _ _ _ _ T12 (mkF m 71 #[_, _, _, _] [(.int (1 : Int32))])
    rw [show (bi (q63 = true)) = (1 : Int32) from bi_t (hq63.mpr (by simp only [eq_true c63_42, not_true_eq_false, not_false_eq_true, and_true, true_and, and_false, false_and, or_true, true_or, or_false, false_or, and_self, or_self]))] at j63
    exact j63
  · refine Go.step (fun tt kk => XS.ifYes X12.here hx rfl (pc0 := 63) (pc' := 70) rfl (hb hby d6_63) rfl ((if0 _ _).trans (flt (fun q => c63_42 ((lw_lt _ _).mp q))).2.1) (by decide) (by decide) kk) ?_
    show Go _ _ _ _ _ _ _ T12 (mkF m 70 #[_, _, _, _] [])
    refine Go.step (fun tt kk => XS.iconst X12.here hx rfl (hb hby d6_70) kk) ?_
    show Go _ _ _ _ _ _ _ T12 (mkF m 71 #[_, _, _, _] [(.int (0 : Int32))])
    rw [show (bi (q63 = true)) = (0 : Int32) from bi_f (mt hq63.mp (by simp only [eq_false c63_42, not_true_eq_false, not_false_eq_true, and_true, true_and, and_false, false_and, or_true, true_or, or_false, false_or, and_self, or_self]))] at j63
    exact j63
theorem ef_rmGwidth (m : MethodId) (x0 : Addr) : entryFrame m #[(.ref x0)] 1 = mkF m 0 #[.val (.ref x0)] [] := by first | (simp [entryFrame, mkF, argsToLocals, Value.category]; done) | rfl
theorem d9_0 : decode prog_58_method_2_code 0 = .ok (.aload_n 0, 1) := by decide +kernel
theorem d9_1 : decode prog_58_method_2_code 1 = .ok (.getfield 16, 3) := by decide +kernel
theorem d9_4 : decode prog_58_method_2_code 4 = .ok (.ireturn, 1) := by decide +kernel
set_option maxRecDepth 65536 in
set_option maxHeartbeats 40000000 in
theorem rmGwidth (l : Launch) (Z : State) (a0 : Array Value) (hw : ∀ d ∈ tables_1, d.before a0 Z = true) (ws : List Jvm.Cond) (a : Addr) (u : Int32) (h0 : Heap) (n0 : Nat) (Z0 : n0 ≤ h0.size) (F : Fld Z h0 a "com/example/gridwright/gridwright/engine/Grid" "width" "I" (.int u)) :
    Ctr l Z (⟨"com/example/gridwright/gridwright/engine/Grid", "width", "()I"⟩ : MethodName) prog_58_method_2_code 1 (some .int) ws ({ frames := 0, cells := 0, slots := 0, locals := 0 } : Room) 0 0 #[(.ref a)] h0 (fun v h L => v = some (.int u) ∧ L = [] ∧ h = h0) := by
  refine Ctr.mk (plainFor_of_name pn_0) fun p e s m below meth c T0 X0 C e0 => go_cast (ef_rmGwidth m a) ?_
  have N0 := Fr.nil n0
  obtain ⟨hx, hZ, hby, hml, hown, hnm, hret, hlk⟩ := C
  show Go _ _ _ _ _ _ _ T0 (mkF m 0 #[.val (.ref a)] [])
  refine Go.step (fun tt kk => XS.aloadN X0.here hx rfl (hb hby d9_0) rfl rfl kk) ?_
  show Go _ _ _ _ _ _ _ T0 (mkF m 1 #[_] [(.ref a)])
  obtain ⟨T1, X1, e1, st1⟩ := getF X0 hx hZ hown (host := "") (Or.inl (hw _ (List.mem_of_getElem? (i := 48) rfl))) Via.refl e0 F (g := (mkF m 1 #[.val (.ref a)] [(.ref a)])) rfl rfl (hb hby d9_1)
  refine Go.step (st1) ?_
  show Go _ _ _ _ _ _ _ T1 (mkF m 4 #[_] [(.int u)])
  refine go_retI X1 hx hret hlk (hb hby d9_4) ?_ (by decide) (by decide)
  try rw [e1]
  exact ⟨rfl, rfl, rfl⟩
theorem ef_rmGheight (m : MethodId) (x0 : Addr) : entryFrame m #[(.ref x0)] 1 = mkF m 0 #[.val (.ref x0)] [] := by first | (simp [entryFrame, mkF, argsToLocals, Value.category]; done) | rfl
theorem d10_0 : decode prog_58_method_3_code 0 = .ok (.aload_n 0, 1) := by decide +kernel
theorem d10_1 : decode prog_58_method_3_code 1 = .ok (.getfield 22, 3) := by decide +kernel
theorem d10_4 : decode prog_58_method_3_code 4 = .ok (.ireturn, 1) := by decide +kernel
set_option maxRecDepth 65536 in
set_option maxHeartbeats 40000000 in
theorem rmGheight (l : Launch) (Z : State) (a0 : Array Value) (hw : ∀ d ∈ tables_1, d.before a0 Z = true) (ws : List Jvm.Cond) (a : Addr) (u : Int32) (h0 : Heap) (n0 : Nat) (Z0 : n0 ≤ h0.size) (F : Fld Z h0 a "com/example/gridwright/gridwright/engine/Grid" "height" "I" (.int u)) :
    Ctr l Z (⟨"com/example/gridwright/gridwright/engine/Grid", "height", "()I"⟩ : MethodName) prog_58_method_3_code 1 (some .int) ws ({ frames := 0, cells := 0, slots := 0, locals := 0 } : Room) 0 0 #[(.ref a)] h0 (fun v h L => v = some (.int u) ∧ L = [] ∧ h = h0) := by
  refine Ctr.mk (plainFor_of_name pn_0) fun p e s m below meth c T0 X0 C e0 => go_cast (ef_rmGheight m a) ?_
  have N0 := Fr.nil n0
  obtain ⟨hx, hZ, hby, hml, hown, hnm, hret, hlk⟩ := C
  show Go _ _ _ _ _ _ _ T0 (mkF m 0 #[.val (.ref a)] [])
  refine Go.step (fun tt kk => XS.aloadN X0.here hx rfl (hb hby d10_0) rfl rfl kk) ?_
  show Go _ _ _ _ _ _ _ T0 (mkF m 1 #[_] [(.ref a)])
  obtain ⟨T1, X1, e1, st1⟩ := getF X0 hx hZ hown (host := "") (Or.inl (hw _ (List.mem_of_getElem? (i := 50) rfl))) Via.refl e0 F (g := (mkF m 1 #[.val (.ref a)] [(.ref a)])) rfl rfl (hb hby d10_1)
  refine Go.step (st1) ?_
  show Go _ _ _ _ _ _ _ T1 (mkF m 4 #[_] [(.int u)])
  refine go_retI X1 hx hret hlk (hb hby d10_4) ?_ (by decide) (by decide)
  try rw [e1]
  exact ⟨rfl, rfl, rfl⟩
theorem ef_rmti (m : MethodId) (x0 : Int32) : entryFrame m #[(.int x0)] 2 = mkF m 0 #[.val (.int x0), .unset] [] := by first | (simp [entryFrame, mkF, argsToLocals, Value.category]; done) | rfl
theorem pn_1 : plainName "java/lang/Integer" = true := by first | (simp [plainName, overriddenIn]; done) | decide +kernel
theorem d17_0 : decode jdk_33_method_48_code 0 = .ok (.iload_n 0, 1) := by decide +kernel
theorem d17_1 : decode jdk_33_method_48_code 1 = .ok (.iconst (-1), 1) := by decide +kernel
theorem d17_2 : decode jdk_33_method_48_code 2 = .ok (.ixor, 1) := by decide +kernel
theorem d17_3 : decode jdk_33_method_48_code 3 = .ok (.iload_n 0, 1) := by decide +kernel
theorem d17_4 : decode jdk_33_method_48_code 4 = .ok (.iconst 1, 1) := by decide +kernel
theorem d17_5 : decode jdk_33_method_48_code 5 = .ok (.isub, 1) := by decide +kernel
theorem d17_6 : decode jdk_33_method_48_code 6 = .ok (.iand, 1) := by decide +kernel
theorem d17_7 : decode jdk_33_method_48_code 7 = .ok (.istore_n 0, 1) := by decide +kernel
theorem d17_8 : decode jdk_33_method_48_code 8 = .ok (.iload_n 0, 1) := by decide +kernel
theorem d17_9 : decode jdk_33_method_48_code 9 = .ok (.ifCond .gt 8, 3) := by decide +kernel
theorem d17_17 : decode jdk_33_method_48_code 17 = .ok (.iconst 1, 1) := by decide +kernel
theorem d17_18 : decode jdk_33_method_48_code 18 = .ok (.istore_n 1, 1) := by decide +kernel
theorem d17_19 : decode jdk_33_method_48_code 19 = .ok (.iload_n 0, 1) := by decide +kernel
theorem d17_20 : decode jdk_33_method_48_code 20 = .ok (.ldc_w 264, 3) := by decide +kernel
theorem d17_23 : decode jdk_33_method_48_code 23 = .ok (.if_icmp .le 11, 3) := by decide +kernel
theorem d17_26 : decode jdk_33_method_48_code 26 = .ok (.iinc 1 16, 3) := by decide +kernel
theorem d17_29 : decode jdk_33_method_48_code 29 = .ok (.iload_n 0, 1) := by decide +kernel
theorem d17_30 : decode jdk_33_method_48_code 30 = .ok (.bipush 16, 2) := by decide +kernel
theorem d17_32 : decode jdk_33_method_48_code 32 = .ok (.iushr, 1) := by decide +kernel
theorem d17_33 : decode jdk_33_method_48_code 33 = .ok (.istore_n 0, 1) := by decide +kernel
theorem d17_34 : decode jdk_33_method_48_code 34 = .ok (.iload_n 0, 1) := by decide +kernel
theorem d17_35 : decode jdk_33_method_48_code 35 = .ok (.sipush 256, 3) := by decide +kernel
theorem d17_38 : decode jdk_33_method_48_code 38 = .ok (.if_icmp .le 11, 3) := by decide +kernel
theorem d17_41 : decode jdk_33_method_48_code 41 = .ok (.iinc 1 8, 3) := by decide +kernel
theorem d17_44 : decode jdk_33_method_48_code 44 = .ok (.iload_n 0, 1) := by decide +kernel
theorem d17_45 : decode jdk_33_method_48_code 45 = .ok (.bipush 8, 2) := by decide +kernel
theorem d17_47 : decode jdk_33_method_48_code 47 = .ok (.iushr, 1) := by decide +kernel
theorem d17_48 : decode jdk_33_method_48_code 48 = .ok (.istore_n 0, 1) := by decide +kernel
theorem d17_49 : decode jdk_33_method_48_code 49 = .ok (.iload_n 0, 1) := by decide +kernel
theorem d17_50 : decode jdk_33_method_48_code 50 = .ok (.bipush 16, 2) := by decide +kernel
theorem d17_52 : decode jdk_33_method_48_code 52 = .ok (.if_icmp .le 10, 3) := by decide +kernel
theorem d17_55 : decode jdk_33_method_48_code 55 = .ok (.iinc 1 4, 3) := by decide +kernel
theorem d17_58 : decode jdk_33_method_48_code 58 = .ok (.iload_n 0, 1) := by decide +kernel
theorem d17_59 : decode jdk_33_method_48_code 59 = .ok (.iconst 4, 1) := by decide +kernel
theorem d17_60 : decode jdk_33_method_48_code 60 = .ok (.iushr, 1) := by decide +kernel
theorem d17_61 : decode jdk_33_method_48_code 61 = .ok (.istore_n 0, 1) := by decide +kernel
theorem d17_62 : decode jdk_33_method_48_code 62 = .ok (.iload_n 0, 1) := by decide +kernel
theorem d17_63 : decode jdk_33_method_48_code 63 = .ok (.iconst 4, 1) := by decide +kernel
theorem d17_64 : decode jdk_33_method_48_code 64 = .ok (.if_icmp .le 10, 3) := by decide +kernel
theorem d17_67 : decode jdk_33_method_48_code 67 = .ok (.iinc 1 2, 3) := by decide +kernel
theorem d17_70 : decode jdk_33_method_48_code 70 = .ok (.iload_n 0, 1) := by decide +kernel
theorem d17_71 : decode jdk_33_method_48_code 71 = .ok (.iconst 2, 1) := by decide +kernel
theorem d17_72 : decode jdk_33_method_48_code 72 = .ok (.iushr, 1) := by decide +kernel
theorem d17_73 : decode jdk_33_method_48_code 73 = .ok (.istore_n 0, 1) := by decide +kernel
theorem d17_74 : decode jdk_33_method_48_code 74 = .ok (.iload_n 1, 1) := by decide +kernel
theorem d17_75 : decode jdk_33_method_48_code 75 = .ok (.iload_n 0, 1) := by decide +kernel
theorem d17_76 : decode jdk_33_method_48_code 76 = .ok (.iconst 1, 1) := by decide +kernel
theorem d17_77 : decode jdk_33_method_48_code 77 = .ok (.iushr, 1) := by decide +kernel
theorem d17_78 : decode jdk_33_method_48_code 78 = .ok (.iadd, 1) := by decide +kernel
theorem d17_79 : decode jdk_33_method_48_code 79 = .ok (.ireturn, 1) := by decide +kernel
theorem d17_12 : decode jdk_33_method_48_code 12 = .ok (.iload_n 0, 1) := by decide +kernel
theorem d17_13 : decode jdk_33_method_48_code 13 = .ok (.bipush 32, 2) := by decide +kernel
theorem d17_15 : decode jdk_33_method_48_code 15 = .ok (.iand, 1) := by decide +kernel
theorem d17_16 : decode jdk_33_method_48_code 16 = .ok (.ireturn, 1) := by decide +kernel
set_option maxRecDepth 65536 in
set_option maxHeartbeats 40000000 in
theorem rmti (l : Launch) (Z : State) (a0 : Array Value) (hw : ∀ d ∈ tables_1, d.before a0 Z = true) (ws : List Jvm.Cond) (x : Int32) (h0 : Heap) (n0 : Nat) (Z0 : n0 ≤ h0.size)  :
    Ctr l Z (⟨"java/lang/Integer", "numberOfTrailingZeros", "(I)I"⟩ : MethodName) jdk_33_method_48_code 2 (some .int) ws ({ frames := 0, cells := 0, slots := 0, locals := 0 } : Room) 0 0 #[(.int x)] h0 (fun v h L => v = some (.int (ntzI x)) ∧ L = [] ∧ h = h0) := by
  refine Ctr.mk (plainFor_of_name pn_1) fun p e s m below meth c T0 X0 C e0 => go_cast (ef_rmti m x) ?_
  have N0 := Fr.nil n0
  obtain ⟨hx, hZ, hby, hml, hown, hnm, hret, hlk⟩ := C
  show Go _ _ _ _ _ _ _ T0 (mkF m 0 #[.val (.int x), .unset] [])
  refine Go.step (fun tt kk => XS.iloadN X0.here hx rfl (hb hby d17_0) rfl kk) ?_
  show Go _ _ _ _ _ _ _ T0 (mkF m 1 #[_, _] [(.int x)])
  refine Go.step (fun tt kk => XS.iconst X0.here hx rfl (hb hby d17_1) kk) ?_
  show Go _ _ _ _ _ _ _ T0 (mkF m 2 #[_, _] [(.int (-1 : Int32)), (.int x)])
  refine Go.step (fun tt kk => XS.ixor X0.here hx rfl (hb hby d17_2) rfl kk) ?_
  show Go _ _ _ _ _ _ _ T0 (mkF m 3 #[_, _] [(.int (x ^^^ (-1 : Int32)))])
  refine Go.step (fun tt kk => XS.iloadN X0.here hx rfl (hb hby d17_3) rfl kk) ?_
  show Go _ _ _ _ _ _ _ T0 (mkF m 4 #[_, _] [(.int x), (.int (x ^^^ (-1 : Int32)))])
  refine Go.step (fun tt kk => XS.iconst X0.here hx rfl (hb hby d17_4) kk) ?_
  show Go _ _ _ _ _ _ _ T0 (mkF m 5 #[_, _] [(.int (1 : Int32)), (.int x), (.int (x ^^^ (-1 : Int32)))])
  refine Go.step (fun tt kk => XS.isub X0.here hx rfl (hb hby d17_5) rfl kk) ?_
  show Go _ _ _ _ _ _ _ T0 (mkF m 6 #[_, _] [(.int (x - (1 : Int32))), (.int (x ^^^ (-1 : Int32)))])
  refine Go.step (fun tt kk => XS.iand X0.here hx rfl (hb hby d17_6) rfl kk) ?_
  show Go _ _ _ _ _ _ _ T0 (mkF m 7 #[_, _] [(.int ((x ^^^ (-1 : Int32)) &&& (x - (1 : Int32))))])
  refine Go.step (fun tt kk => XS.istoreN X0.here hx rfl (hb hby d17_7) rfl (l' := #[.val (.int ((x ^^^ (-1 : Int32)) &&& (x - (1 : Int32)))), .unset]) rfl kk) ?_
  show Go _ _ _ _ _ _ _ T0 (mkF m 8 #[_, _] [])
  refine Go.step (fun tt kk => XS.iloadN X0.here hx rfl (hb hby d17_8) rfl kk) ?_
  show Go _ _ _ _ _ _ _ T0 (mkF m 9 #[_, _] [(.int ((x ^^^ (-1 : Int32)) &&& (x - (1 : Int32))))])
  by_cases c9_1 : (0 : Int32) < ((x ^^^ (-1 : Int32)) &&& (x - (1 : Int32)))
  · refine Go.step (fun tt kk => XS.ifYes X0.here hx rfl (pc0 := 9) (pc' := 17) rfl (hb hby d17_9) rfl ((if0 _ _).trans (tlt c9_1).2.2.1) (by decide) (by decide) kk) ?_
    show Go _ _ _ _ _ _ _ T0 (mkF m 17 #[_, _] [])
    refine Go.step (fun tt kk => XS.iconst X0.here hx rfl (hb hby d17_17) kk) ?_
    show Go _ _ _ _ _ _ _ T0 (mkF m 18 #[_, _] [(.int (1 : Int32))])
    refine Go.step (fun tt kk => XS.istoreN X0.here hx rfl (hb hby d17_18) rfl (l' := #[.val (.int ((x ^^^ (-1 : Int32)) &&& (x - (1 : Int32)))), .val (.int (1 : Int32))]) rfl kk) ?_
    show Go _ _ _ _ _ _ _ T0 (mkF m 19 #[_, _] [])
    refine Go.step (fun tt kk => XS.iloadN X0.here hx rfl (hb hby d17_19) rfl kk) ?_
    show Go _ _ _ _ _ _ _ T0 (mkF m 20 #[_, _] [(.int ((x ^^^ (-1 : Int32)) &&& (x - (1 : Int32))))])
    refine Go.step (X0.ldcwInt hx hown (mvT hZ (hw _ (List.mem_of_getElem? (i := 128) rfl))) (g := (mkF m 20 #[.val (.int ((x ^^^ (-1 : Int32)) &&& (x - (1 : Int32)))), .val (.int (1 : Int32))] [(.int ((x ^^^ (-1 : Int32)) &&& (x - (1 : Int32))))])) rfl (hb hby d17_20)) ?_
    show Go _ _ _ _ _ _ _ T0 (mkF m 23 #[_, _] [(.int (65536 : Int32)), (.int ((x ^^^ (-1 : Int32)) &&& (x - (1 : Int32))))])
    by_cases c23_2 : (65536 : Int32) < ((x ^^^ (-1 : Int32)) &&& (x - (1 : Int32)))
    · refine Go.step (fun tt kk => XS.icmpNo X0.here hx rfl (hb hby d17_23) rfl (tlt c23_2).2.2.2 kk) ?_
      show Go _ _ _ _ _ _ _ T0 (mkF m 26 #[_, _] [])
      refine Go.step (fun tt kk => XS.iinc X0.here hx rfl (hb hby d17_26) rfl (l' := #[.val (.int ((x ^^^ (-1 : Int32)) &&& (x - (1 : Int32)))), .val (.int (17 : Int32))]) rfl kk) ?_
      show Go _ _ _ _ _ _ _ T0 (mkF m 29 #[_, _] [])
      refine Go.step (fun tt kk => XS.iloadN X0.here hx rfl (hb hby d17_29) rfl kk) ?_
      show Go _ _ _ _ _ _ _ T0 (mkF m 30 #[_, _] [(.int ((x ^^^ (-1 : Int32)) &&& (x - (1 : Int32))))])
      refine Go.step (fun tt kk => XS.bipush X0.here hx rfl (hb hby d17_30) kk) ?_
      show Go _ _ _ _ _ _ _ T0 (mkF m 32 #[_, _] [(.int (16 : Int32)), (.int ((x ^^^ (-1 : Int32)) &&& (x - (1 : Int32))))])
      refine Go.step (fun tt kk => XS.iushr X0.here hx rfl (hb hby d17_32) rfl kk) ?_
      show Go _ _ _ _ _ _ _ T0 (mkF m 33 #[_, _] [(.int ((((x ^^^ (-1 : Int32)) &&& (x - (1 : Int32))).toUInt32 >>> ((16 : Int32) &&& 31).toUInt32).toInt32))])
      refine Go.step (fun tt kk => XS.istoreN X0.here hx rfl (hb hby d17_33) rfl (l' := #[.val (.int ((((x ^^^ (-1 : Int32)) &&& (x - (1 : Int32))).toUInt32 >>> ((16 : Int32) &&& 31).toUInt32).toInt32)), .val (.int (17 : Int32))]) rfl kk) ?_
      show Go _ _ _ _ _ _ _ T0 (mkF m 34 #[_, _] [])
      refine Go.step (fun tt kk => XS.iloadN X0.here hx rfl (hb hby d17_34) rfl kk) ?_
      show Go _ _ _ _ _ _ _ T0 (mkF m 35 #[_, _] [(.int ((((x ^^^ (-1 : Int32)) &&& (x - (1 : Int32))).toUInt32 >>> ((16 : Int32) &&& 31).toUInt32).toInt32))])
      refine Go.step (fun tt kk => XS.sipush X0.here hx rfl (hb hby d17_35) kk) ?_
      show Go _ _ _ _ _ _ _ T0 (mkF m 38 #[_, _] [(.int (256 : Int32)), (.int ((((x ^^^ (-1 : Int32)) &&& (x - (1 : Int32))).toUInt32 >>> ((16 : Int32) &&& 31).toUInt32).toInt32))])
      by_cases c38_3 : (256 : Int32) < ((((x ^^^ (-1 : Int32)) &&& (x - (1 : Int32))).toUInt32 >>> ((16 : Int32) &&& 31).toUInt32).toInt32)
      · refine Go.step (fun tt kk => XS.icmpNo X0.here hx rfl (hb hby d17_38) rfl (tlt c38_3).2.2.2 kk) ?_
        show Go _ _ _ _ _ _ _ T0 (mkF m 41 #[_, _] [])
        refine Go.step (fun tt kk => XS.iinc X0.here hx rfl (hb hby d17_41) rfl (l' := #[.val (.int ((((x ^^^ (-1 : Int32)) &&& (x - (1 : Int32))).toUInt32 >>> ((16 : Int32) &&& 31).toUInt32).toInt32)), .val (.int (25 : Int32))]) rfl kk) ?_
        show Go _ _ _ _ _ _ _ T0 (mkF m 44 #[_, _] [])
        refine Go.step (fun tt kk => XS.iloadN X0.here hx rfl (hb hby d17_44) rfl kk) ?_
        show Go _ _ _ _ _ _ _ T0 (mkF m 45 #[_, _] [(.int ((((x ^^^ (-1 : Int32)) &&& (x - (1 : Int32))).toUInt32 >>> ((16 : Int32) &&& 31).toUInt32).toInt32))])
        refine Go.step (fun tt kk => XS.bipush X0.here hx rfl (hb hby d17_45) kk) ?_
        show Go _ _ _ _ _ _ _ T0 (mkF m 47 #[_, _] [(.int (8 : Int32)), (.int ((((x ^^^ (-1 : Int32)) &&& (x - (1 : Int32))).toUInt32 >>> ((16 : Int32) &&& 31).toUInt32).toInt32))])
        refine Go.step (fun tt kk => XS.iushr X0.here hx rfl (hb hby d17_47) rfl kk) ?_
        show Go _ _ _ _ _ _ _ T0 (mkF m 48 #[_, _] [(.int ((((((x ^^^ (-1 : Int32)) &&& (x - (1 : Int32))).toUInt32 >>> ((16 : Int32) &&& 31).toUInt32).toInt32).toUInt32 >>> ((8 : Int32) &&& 31).toUInt32).toInt32))])
        refine Go.step (fun tt kk => XS.istoreN X0.here hx rfl (hb hby d17_48) rfl (l' := #[.val (.int ((((((x ^^^ (-1 : Int32)) &&& (x - (1 : Int32))).toUInt32 >>> ((16 : Int32) &&& 31).toUInt32).toInt32).toUInt32 >>> ((8 : Int32) &&& 31).toUInt32).toInt32)), .val (.int (25 : Int32))]) rfl kk) ?_
        show Go _ _ _ _ _ _ _ T0 (mkF m 49 #[_, _] [])
        refine Go.step (fun tt kk => XS.iloadN X0.here hx rfl (hb hby d17_49) rfl kk) ?_
        show Go _ _ _ _ _ _ _ T0 (mkF m 50 #[_, _] [(.int ((((((x ^^^ (-1 : Int32)) &&& (x - (1 : Int32))).toUInt32 >>> ((16 : Int32) &&& 31).toUInt32).toInt32).toUInt32 >>> ((8 : Int32) &&& 31).toUInt32).toInt32))])
        refine Go.step (fun tt kk => XS.bipush X0.here hx rfl (hb hby d17_50) kk) ?_
        show Go _ _ _ _ _ _ _ T0 (mkF m 52 #[_, _] [(.int (16 : Int32)), (.int ((((((x ^^^ (-1 : Int32)) &&& (x - (1 : Int32))).toUInt32 >>> ((16 : Int32) &&& 31).toUInt32).toInt32).toUInt32 >>> ((8 : Int32) &&& 31).toUInt32).toInt32))])
        by_cases c52_4 : (16 : Int32) < ((((((x ^^^ (-1 : Int32)) &&& (x - (1 : Int32))).toUInt32 >>> ((16 : Int32) &&& 31).toUInt32).toInt32).toUInt32 >>> ((8 : Int32) &&& 31).toUInt32).toInt32)
        · refine Go.step (fun tt kk => XS.icmpNo X0.here hx rfl (hb hby d17_52) rfl (tlt c52_4).2.2.2 kk) ?_
          show Go _ _ _ _ _ _ _ T0 (mkF m 55 #[_, _] [])
          refine Go.step (fun tt kk => XS.iinc X0.here hx rfl (hb hby d17_55) rfl (l' := #[.val (.int ((((((x ^^^ (-1 : Int32)) &&& (x - (1 : Int32))).toUInt32 >>> ((16 : Int32) &&& 31).toUInt32).toInt32).toUInt32 >>> ((8 : Int32) &&& 31).toUInt32).toInt32)), .val (.int (29 : Int32))]) rfl kk) ?_
          show Go _ _ _ _ _ _ _ T0 (mkF m 58 #[_, _] [])
          refine Go.step (fun tt kk => XS.iloadN X0.here hx rfl (hb hby d17_58) rfl kk) ?_
          show Go _ _ _ _ _ _ _ T0 (mkF m 59 #[_, _] [(.int ((((((x ^^^ (-1 : Int32)) &&& (x - (1 : Int32))).toUInt32 >>> ((16 : Int32) &&& 31).toUInt32).toInt32).toUInt32 >>> ((8 : Int32) &&& 31).toUInt32).toInt32))])
          refine Go.step (fun tt kk => XS.iconst X0.here hx rfl (hb hby d17_59) kk) ?_
          show Go _ _ _ _ _ _ _ T0 (mkF m 60 #[_, _] [(.int (4 : Int32)), (.int ((((((x ^^^ (-1 : Int32)) &&& (x - (1 : Int32))).toUInt32 >>> ((16 : Int32) &&& 31).toUInt32).toInt32).toUInt32 >>> ((8 : Int32) &&& 31).toUInt32).toInt32))])
          refine Go.step (fun tt kk => XS.iushr X0.here hx rfl (hb hby d17_60) rfl kk) ?_
          show Go _ _ _ _ _ _ _ T0 (mkF m 61 #[_, _] [(.int ((((((((x ^^^ (-1 : Int32)) &&& (x - (1 : Int32))).toUInt32 >>> ((16 : Int32) &&& 31).toUInt32).toInt32).toUInt32 >>> ((8 : Int32) &&& 31).toUInt32).toInt32).toUInt32 >>> ((4 : Int32) &&& 31).toUInt32).toInt32))])
          refine Go.step (fun tt kk => XS.istoreN X0.here hx rfl (hb hby d17_61) rfl (l' := #[.val (.int ((((((((x ^^^ (-1 : Int32)) &&& (x - (1 : Int32))).toUInt32 >>> ((16 : Int32) &&& 31).toUInt32).toInt32).toUInt32 >>> ((8 : Int32) &&& 31).toUInt32).toInt32).toUInt32 >>> ((4 : Int32) &&& 31).toUInt32).toInt32)), .val (.int (29 : Int32))]) rfl kk) ?_
          show Go _ _ _ _ _ _ _ T0 (mkF m 62 #[_, _] [])
          refine Go.step (fun tt kk => XS.iloadN X0.here hx rfl (hb hby d17_62) rfl kk) ?_
          show Go _ _ _ _ _ _ _ T0 (mkF m 63 #[_, _] [(.int ((((((((x ^^^ (-1 : Int32)) &&& (x - (1 : Int32))).toUInt32 >>> ((16 : Int32) &&& 31).toUInt32).toInt32).toUInt32 >>> ((8 : Int32) &&& 31).toUInt32).toInt32).toUInt32 >>> ((4 : Int32) &&& 31).toUInt32).toInt32))])
          refine Go.step (fun tt kk => XS.iconst X0.here hx rfl (hb hby d17_63) kk) ?_
          show Go _ _ _ _ _ _ _ T0 (mkF m 64 #[_, _] [(.int (4 : Int32)), (.int ((((((((x ^^^ (-1 : Int32)) &&& (x - (1 : Int32))).toUInt32 >>> ((16 : Int32) &&& 31).toUInt32).toInt32).toUInt32 >>> ((8 : Int32) &&& 31).toUInt32).toInt32).toUInt32 >>> ((4 : Int32) &&& 31).toUInt32).toInt32))])
          by_cases c64_5 : (4 : Int32) < ((((((((x ^^^ (-1 : Int32)) &&& (x - (1 : Int32))).toUInt32 >>> ((16 : Int32) &&& 31).toUInt32).toInt32).toUInt32 >>> ((8 : Int32) &&& 31).toUInt32).toInt32).toUInt32 >>> ((4 : Int32) &&& 31).toUInt32).toInt32)
          · refine Go.step (fun tt kk => XS.icmpNo X0.here hx rfl (hb hby d17_64) rfl (tlt c64_5).2.2.2 kk) ?_
            show Go _ _ _ _ _ _ _ T0 (mkF m 67 #[_, _] [])
            refine Go.step (fun tt kk => XS.iinc X0.here hx rfl (hb hby d17_67) rfl (l' := #[.val (.int ((((((((x ^^^ (-1 : Int32)) &&& (x - (1 : Int32))).toUInt32 >>> ((16 : Int32) &&& 31).toUInt32).toInt32).toUInt32 >>> ((8 : Int32) &&& 31).toUInt32).toInt32).toUInt32 >>> ((4 : Int32) &&& 31).toUInt32).toInt32)), .val (.int (31 : Int32))]) rfl kk) ?_
            show Go _ _ _ _ _ _ _ T0 (mkF m 70 #[_, _] [])
            refine Go.step (fun tt kk => XS.iloadN X0.here hx rfl (hb hby d17_70) rfl kk) ?_
            show Go _ _ _ _ _ _ _ T0 (mkF m 71 #[_, _] [(.int ((((((((x ^^^ (-1 : Int32)) &&& (x - (1 : Int32))).toUInt32 >>> ((16 : Int32) &&& 31).toUInt32).toInt32).toUInt32 >>> ((8 : Int32) &&& 31).toUInt32).toInt32).toUInt32 >>> ((4 : Int32) &&& 31).toUInt32).toInt32))])
            refine Go.step (fun tt kk => XS.iconst X0.here hx rfl (hb hby d17_71) kk) ?_
            show Go _ _ _ _ _ _ _ T0 (mkF m 72 #[_, _] [(.int (2 : Int32)), (.int ((((((((x ^^^ (-1 : Int32)) &&& (x - (1 : Int32))).toUInt32 >>> ((16 : Int32) &&& 31).toUInt32).toInt32).toUInt32 >>> ((8 : Int32) &&& 31).toUInt32).toInt32).toUInt32 >>> ((4 : Int32) &&& 31).toUInt32).toInt32))])
            refine Go.step (fun tt kk => XS.iushr X0.here hx rfl (hb hby d17_72) rfl kk) ?_
            show Go _ _ _ _ _ _ _ T0 (mkF m 73 #[_, _] [(.int ((((((((((x ^^^ (-1 : Int32)) &&& (x - (1 : Int32))).toUInt32 >>> ((16 : Int32) &&& 31).toUInt32).toInt32).toUInt32 >>> ((8 : Int32) &&& 31).toUInt32).toInt32).toUInt32 >>> ((4 : Int32) &&& 31).toUInt32).toInt32).toUInt32 >>> ((2 : Int32) &&& 31).toUInt32).toInt32))])
            refine Go.step (fun tt kk => XS.istoreN X0.here hx rfl (hb hby d17_73) rfl (l' := #[.val (.int ((((((((((x ^^^ (-1 : Int32)) &&& (x - (1 : Int32))).toUInt32 >>> ((16 : Int32) &&& 31).toUInt32).toInt32).toUInt32 >>> ((8 : Int32) &&& 31).toUInt32).toInt32).toUInt32 >>> ((4 : Int32) &&& 31).toUInt32).toInt32).toUInt32 >>> ((2 : Int32) &&& 31).toUInt32).toInt32)), .val (.int (31 : Int32))]) rfl kk) ?_
            show Go _ _ _ _ _ _ _ T0 (mkF m 74 #[_, _] [])
            refine Go.step (fun tt kk => XS.iloadN X0.here hx rfl (hb hby d17_74) rfl kk) ?_
            show Go _ _ _ _ _ _ _ T0 (mkF m 75 #[_, _] [(.int (31 : Int32))])
            refine Go.step (fun tt kk => XS.iloadN X0.here hx rfl (hb hby d17_75) rfl kk) ?_
            show Go _ _ _ _ _ _ _ T0 (mkF m 76 #[_, _] [(.int ((((((((((x ^^^ (-1 : Int32)) &&& (x - (1 : Int32))).toUInt32 >>> ((16 : Int32) &&& 31).toUInt32).toInt32).toUInt32 >>> ((8 : Int32) &&& 31).toUInt32).toInt32).toUInt32 >>> ((4 : Int32) &&& 31).toUInt32).toInt32).toUInt32 >>> ((2 : Int32) &&& 31).toUInt32).toInt32)), (.int (31 : Int32))])
            refine Go.step (fun tt kk => XS.iconst X0.here hx rfl (hb hby d17_76) kk) ?_
            show Go _ _ _ _ _ _ _ T0 (mkF m 77 #[_, _] [(.int (1 : Int32)), (.int ((((((((((x ^^^ (-1 : Int32)) &&& (x - (1 : Int32))).toUInt32 >>> ((16 : Int32) &&& 31).toUInt32).toInt32).toUInt32 >>> ((8 : Int32) &&& 31).toUInt32).toInt32).toUInt32 >>> ((4 : Int32) &&& 31).toUInt32).toInt32).toUInt32 >>> ((2 : Int32) &&& 31).toUInt32).toInt32)), (.int (31 : Int32))])
            refine Go.step (fun tt kk => XS.iushr X0.here hx rfl (hb hby d17_77) rfl kk) ?_
            show Go _ _ _ _ _ _ _ T0 (mkF m 78 #[_, _] [(.int ((((((((((((x ^^^ (-1 : Int32)) &&& (x - (1 : Int32))).toUInt32 >>> ((16 : Int32) &&& 31).toUInt32).toInt32).toUInt32 >>> ((8 : Int32) &&& 31).toUInt32).toInt32).toUInt32 >>> ((4 : Int32) &&& 31).toUInt32).toInt32).toUInt32 >>> ((2 : Int32) &&& 31).toUInt32).toInt32).toUInt32 >>> ((1 : Int32) &&& 31).toUInt32).toInt32)), (.int (31 : Int32))])
            refine Go.step (fun tt kk => XS.iadd X0.here hx rfl (hb hby d17_78) rfl kk) ?_
            show Go _ _ _ _ _ _ _ T0 (mkF m 79 #[_, _] [(.int ((31 : Int32) + ((((((((((((x ^^^ (-1 : Int32)) &&& (x - (1 : Int32))).toUInt32 >>> ((16 : Int32) &&& 31).toUInt32).toInt32).toUInt32 >>> ((8 : Int32) &&& 31).toUInt32).toInt32).toUInt32 >>> ((4 : Int32) &&& 31).toUInt32).toInt32).toUInt32 >>> ((2 : Int32) &&& 31).toUInt32).toInt32).toUInt32 >>> ((1 : Int32) &&& 31).toUInt32).toInt32)))])
            refine go_retI X0 hx hret hlk (hb hby d17_79) ?_ (by decide) (by decide)
            try rw [e0]
            exact ⟨congrArg (fun z => some (Value.int z)) (by simp only [ntzI, n1, n2, n3, n4, i1, i2, i3, i4, us, z0, eq_true c9_1, eq_true c23_2, eq_true c38_3, eq_true c52_4, eq_true c64_5, if_true, if_false, Int32.reduceAdd]), rfl, rfl⟩
          · refine Go.step (fun tt kk => XS.icmpYes X0.here hx rfl (pc0 := 64) (pc' := 74) rfl (hb hby d17_64) rfl (flt c64_5).2.2.2 (by decide) (by decide) kk) ?_
            show Go _ _ _ _ _ _ _ T0 (mkF m 74 #[_, _] [])
            refine Go.step (fun tt kk => XS.iloadN X0.here hx rfl (hb hby d17_74) rfl kk) ?_
            show Go _ _ _ _ _ _ _ T0 (mkF m 75 #[_, _] [(.int (29 : Int32))])
            refine Go.step (fun tt kk => XS.iloadN X0.here hx rfl (hb hby d17_75) rfl kk) ?_
            show Go _ _ _ _ _ _ _ T0 (mkF m 76 #[_, _] [(.int ((((((((x ^^^ (-1 : Int32)) &&& (x - (1 : Int32))).toUInt32 >>> ((16 : Int32) &&& 31).toUInt32).toInt32).toUInt32 >>> ((8 : Int32) &&& 31).toUInt32).toInt32).toUInt32 >>> ((4 : Int32) &&& 31).toUInt32).toInt32)), (.int (29 : Int32))])
            refine Go.step (fun tt kk => XS.iconst X0.here hx rfl (hb hby d17_76) kk) ?_
            show Go _ _ _ _ _ _ _ T0 (mkF m 77 #[_, _] [(.int (1 : Int32)), (.int ((((((((x ^^^ (-1 : Int32)) &&& (x - (1 : Int32))).toUInt32 >>> ((16 : Int32) &&& 31).toUInt32).toInt32).toUInt32 >>> ((8 : Int32) &&& 31).toUInt32).toInt32).toUInt32 >>> ((4 : Int32) &&& 31).toUInt32).toInt32)), (.int (29 : Int32))])
            refine Go.step (fun tt kk => XS.iushr X0.here hx rfl (hb hby d17_77) rfl kk) ?_
            show Go _ _ _ _ _ _ _ T0 (mkF m 78 #[_, _] [(.int ((((((((((x ^^^ (-1 : Int32)) &&& (x - (1 : Int32))).toUInt32 >>> ((16 : Int32) &&& 31).toUInt32).toInt32).toUInt32 >>> ((8 : Int32) &&& 31).toUInt32).toInt32).toUInt32 >>> ((4 : Int32) &&& 31).toUInt32).toInt32).toUInt32 >>> ((1 : Int32) &&& 31).toUInt32).toInt32)), (.int (29 : Int32))])
            refine Go.step (fun tt kk => XS.iadd X0.here hx rfl (hb hby d17_78) rfl kk) ?_
            show Go _ _ _ _ _ _ _ T0 (mkF m 79 #[_, _] [(.int ((29 : Int32) + ((((((((((x ^^^ (-1 : Int32)) &&& (x - (1 : Int32))).toUInt32 >>> ((16 : Int32) &&& 31).toUInt32).toInt32).toUInt32 >>> ((8 : Int32) &&& 31).toUInt32).toInt32).toUInt32 >>> ((4 : Int32) &&& 31).toUInt32).toInt32).toUInt32 >>> ((1 : Int32) &&& 31).toUInt32).toInt32)))])
            refine go_retI X0 hx hret hlk (hb hby d17_79) ?_ (by decide) (by decide)
            try rw [e0]
            exact ⟨congrArg (fun z => some (Value.int z)) (by simp only [ntzI, n1, n2, n3, n4, i1, i2, i3, i4, us, z0, eq_true c9_1, eq_true c23_2, eq_true c38_3, eq_true c52_4, eq_false c64_5, if_true, if_false, Int32.reduceAdd]), rfl, rfl⟩
        · refine Go.step (fun tt kk => XS.icmpYes X0.here hx rfl (pc0 := 52) (pc' := 62) rfl (hb hby d17_52) rfl (flt c52_4).2.2.2 (by decide) (by decide) kk) ?_
          show Go _ _ _ _ _ _ _ T0 (mkF m 62 #[_, _] [])
          refine Go.step (fun tt kk => XS.iloadN X0.here hx rfl (hb hby d17_62) rfl kk) ?_
          show Go _ _ _ _ _ _ _ T0 (mkF m 63 #[_, _] [(.int ((((((x ^^^ (-1 : Int32)) &&& (x - (1 : Int32))).toUInt32 >>> ((16 : Int32) &&& 31).toUInt32).toInt32).toUInt32 >>> ((8 : Int32) &&& 31).toUInt32).toInt32))])
          refine Go.step (fun tt kk => XS.iconst X0.here hx rfl (hb hby d17_63) kk) ?_
          show Go _ _ _ _ _ _ _ T0 (mkF m 64 #[_, _] [(.int (4 : Int32)), (.int ((((((x ^^^ (-1 : Int32)) &&& (x - (1 : Int32))).toUInt32 >>> ((16 : Int32) &&& 31).toUInt32).toInt32).toUInt32 >>> ((8 : Int32) &&& 31).toUInt32).toInt32))])
          by_cases c64_6 : (4 : Int32) < ((((((x ^^^ (-1 : Int32)) &&& (x - (1 : Int32))).toUInt32 >>> ((16 : Int32) &&& 31).toUInt32).toInt32).toUInt32 >>> ((8 : Int32) &&& 31).toUInt32).toInt32)
          · refine Go.step (fun tt kk => XS.icmpNo X0.here hx rfl (hb hby d17_64) rfl (tlt c64_6).2.2.2 kk) ?_
            show Go _ _ _ _ _ _ _ T0 (mkF m 67 #[_, _] [])
            refine Go.step (fun tt kk => XS.iinc X0.here hx rfl (hb hby d17_67) rfl (l' := #[.val (.int ((((((x ^^^ (-1 : Int32)) &&& (x - (1 : Int32))).toUInt32 >>> ((16 : Int32) &&& 31).toUInt32).toInt32).toUInt32 >>> ((8 : Int32) &&& 31).toUInt32).toInt32)), .val (.int (27 : Int32))]) rfl kk) ?_
            show Go _ _ _ _ _ _ _ T0 (mkF m 70 #[_, _] [])
            refine Go.step (fun tt kk => XS.iloadN X0.here hx rfl (hb hby d17_70) rfl kk) ?_
            show Go _ _ _ _ _ _ _ T0 (mkF m 71 #[_, _] [(.int ((((((x ^^^ (-1 : Int32)) &&& (x - (1 : Int32))).toUInt32 >>> ((16 : Int32) &&& 31).toUInt32).toInt32).toUInt32 >>> ((8 : Int32) &&& 31).toUInt32).toInt32))])
            refine Go.step (fun tt kk => XS.iconst X0.here hx rfl (hb hby d17_71) kk) ?_
            show Go _ _ _ _ _ _ _ T0 (mkF m 72 #[_, _] [(.int (2 : Int32)), (.int ((((((x ^^^ (-1 : Int32)) &&& (x - (1 : Int32))).toUInt32 >>> ((16 : Int32) &&& 31).toUInt32).toInt32).toUInt32 >>> ((8 : Int32) &&& 31).toUInt32).toInt32))])
            refine Go.step (fun tt kk => XS.iushr X0.here hx rfl (hb hby d17_72) rfl kk) ?_
            show Go _ _ _ _ _ _ _ T0 (mkF m 73 #[_, _] [(.int ((((((((x ^^^ (-1 : Int32)) &&& (x - (1 : Int32))).toUInt32 >>> ((16 : Int32) &&& 31).toUInt32).toInt32).toUInt32 >>> ((8 : Int32) &&& 31).toUInt32).toInt32).toUInt32 >>> ((2 : Int32) &&& 31).toUInt32).toInt32))])
            refine Go.step (fun tt kk => XS.istoreN X0.here hx rfl (hb hby d17_73) rfl (l' := #[.val (.int ((((((((x ^^^ (-1 : Int32)) &&& (x - (1 : Int32))).toUInt32 >>> ((16 : Int32) &&& 31).toUInt32).toInt32).toUInt32 >>> ((8 : Int32) &&& 31).toUInt32).toInt32).toUInt32 >>> ((2 : Int32) &&& 31).toUInt32).toInt32)), .val (.int (27 : Int32))]) rfl kk) ?_
            show Go _ _ _ _ _ _ _ T0 (mkF m 74 #[_, _] [])
            refine Go.step (fun tt kk => XS.iloadN X0.here hx rfl (hb hby d17_74) rfl kk) ?_
            show Go _ _ _ _ _ _ _ T0 (mkF m 75 #[_, _] [(.int (27 : Int32))])
            refine Go.step (fun tt kk => XS.iloadN X0.here hx rfl (hb hby d17_75) rfl kk) ?_
            show Go _ _ _ _ _ _ _ T0 (mkF m 76 #[_, _] [(.int ((((((((x ^^^ (-1 : Int32)) &&& (x - (1 : Int32))).toUInt32 >>> ((16 : Int32) &&& 31).toUInt32).toInt32).toUInt32 >>> ((8 : Int32) &&& 31).toUInt32).toInt32).toUInt32 >>> ((2 : Int32) &&& 31).toUInt32).toInt32)), (.int (27 : Int32))])
            refine Go.step (fun tt kk => XS.iconst X0.here hx rfl (hb hby d17_76) kk) ?_
            show Go _ _ _ _ _ _ _ T0 (mkF m 77 #[_, _] [(.int (1 : Int32)), (.int ((((((((x ^^^ (-1 : Int32)) &&& (x - (1 : Int32))).toUInt32 >>> ((16 : Int32) &&& 31).toUInt32).toInt32).toUInt32 >>> ((8 : Int32) &&& 31).toUInt32).toInt32).toUInt32 >>> ((2 : Int32) &&& 31).toUInt32).toInt32)), (.int (27 : Int32))])
            refine Go.step (fun tt kk => XS.iushr X0.here hx rfl (hb hby d17_77) rfl kk) ?_
            show Go _ _ _ _ _ _ _ T0 (mkF m 78 #[_, _] [(.int ((((((((((x ^^^ (-1 : Int32)) &&& (x - (1 : Int32))).toUInt32 >>> ((16 : Int32) &&& 31).toUInt32).toInt32).toUInt32 >>> ((8 : Int32) &&& 31).toUInt32).toInt32).toUInt32 >>> ((2 : Int32) &&& 31).toUInt32).toInt32).toUInt32 >>> ((1 : Int32) &&& 31).toUInt32).toInt32)), (.int (27 : Int32))])
            refine Go.step (fun tt kk => XS.iadd X0.here hx rfl (hb hby d17_78) rfl kk) ?_
            show Go _ _ _ _ _ _ _ T0 (mkF m 79 #[_, _] [(.int ((27 : Int32) + ((((((((((x ^^^ (-1 : Int32)) &&& (x - (1 : Int32))).toUInt32 >>> ((16 : Int32) &&& 31).toUInt32).toInt32).toUInt32 >>> ((8 : Int32) &&& 31).toUInt32).toInt32).toUInt32 >>> ((2 : Int32) &&& 31).toUInt32).toInt32).toUInt32 >>> ((1 : Int32) &&& 31).toUInt32).toInt32)))])
            refine go_retI X0 hx hret hlk (hb hby d17_79) ?_ (by decide) (by decide)
            try rw [e0]
            exact ⟨congrArg (fun z => some (Value.int z)) (by simp only [ntzI, n1, n2, n3, n4, i1, i2, i3, i4, us, z0, eq_true c9_1, eq_true c23_2, eq_true c38_3, eq_false c52_4, eq_true c64_6, if_true, if_false, Int32.reduceAdd]), rfl, rfl⟩
          · refine Go.step (fun tt kk => XS.icmpYes X0.here hx rfl (pc0 := 64) (pc' := 74) rfl (hb hby d17_64) rfl (flt c64_6).2.2.2 (by decide) (by decide) kk) ?_
            show Go _ _ _ _ _ _ _ T0 (mkF m 74 #[_, _] [])
            refine Go.step (fun tt kk => XS.iloadN X0.here hx rfl (hb hby d17_74) rfl kk) ?_
            show Go _ _ _ _ _ _ _ T0 (mkF m 75 #[_, _] [(.int (25 : Int32))])
            refine Go.step (fun tt kk => XS.iloadN X0.here hx rfl (hb hby d17_75) rfl kk) ?_
            show Go _ _ _ _ _ _ _ T0 (mkF m 76 #[_, _] [(.int ((((((x ^^^ (-1 : Int32)) &&& (x - (1 : Int32))).toUInt32 >>> ((16 : Int32) &&& 31).toUInt32).toInt32).toUInt32 >>> ((8 : Int32) &&& 31).toUInt32).toInt32)), (.int (25 : Int32))])
            refine Go.step (fun tt kk => XS.iconst X0.here hx rfl (hb hby d17_76) kk) ?_
            show Go _ _ _ _ _ _ _ T0 (mkF m 77 #[_, _] [(.int (1 : Int32)), (.int ((((((x ^^^ (-1 : Int32)) &&& (x - (1 : Int32))).toUInt32 >>> ((16 : Int32) &&& 31).toUInt32).toInt32).toUInt32 >>> ((8 : Int32) &&& 31).toUInt32).toInt32)), (.int (25 : Int32))])
            refine Go.step (fun tt kk => XS.iushr X0.here hx rfl (hb hby d17_77) rfl kk) ?_
            show Go _ _ _ _ _ _ _ T0 (mkF m 78 #[_, _] [(.int ((((((((x ^^^ (-1 : Int32)) &&& (x - (1 : Int32))).toUInt32 >>> ((16 : Int32) &&& 31).toUInt32).toInt32).toUInt32 >>> ((8 : Int32) &&& 31).toUInt32).toInt32).toUInt32 >>> ((1 : Int32) &&& 31).toUInt32).toInt32)), (.int (25 : Int32))])
            refine Go.step (fun tt kk => XS.iadd X0.here hx rfl (hb hby d17_78) rfl kk) ?_
            show Go _ _ _ _ _ _ _ T0 (mkF m 79 #[_, _] [(.int ((25 : Int32) + ((((((((x ^^^ (-1 : Int32)) &&& (x - (1 : Int32))).toUInt32 >>> ((16 : Int32) &&& 31).toUInt32).toInt32).toUInt32 >>> ((8 : Int32) &&& 31).toUInt32).toInt32).toUInt32 >>> ((1 : Int32) &&& 31).toUInt32).toInt32)))])
            refine go_retI X0 hx hret hlk (hb hby d17_79) ?_ (by decide) (by decide)
            try rw [e0]
            exact ⟨congrArg (fun z => some (Value.int z)) (by simp only [ntzI, n1, n2, n3, n4, i1, i2, i3, i4, us, z0, eq_true c9_1, eq_true c23_2, eq_true c38_3, eq_false c52_4, eq_false c64_6, if_true, if_false, Int32.reduceAdd]), rfl, rfl⟩
      · refine Go.step (fun tt kk => XS.icmpYes X0.here hx rfl (pc0 := 38) (pc' := 49) rfl (hb hby d17_38) rfl (flt c38_3).2.2.2 (by decide) (by decide) kk) ?_
        show Go _ _ _ _ _ _ _ T0 (mkF m 49 #[_, _] [])
        refine Go.step (fun tt kk => XS.iloadN X0.here hx rfl (hb hby d17_49) rfl kk) ?_
        show Go _ _ _ _ _ _ _ T0 (mkF m 50 #[_, _] [(.int ((((x ^^^ (-1 : Int32)) &&& (x - (1 : Int32))).toUInt32 >>> ((16 : Int32) &&& 31).toUInt32).toInt32))])
        refine Go.step (fun tt kk => XS.bipush X0.here hx rfl (hb hby d17_50) kk) ?_
        show Go _ _ _ _ _ _ _ T0 (mkF m 52 #[_, _] [(.int (16 : Int32)), (.int ((((x ^^^ (-1 : Int32)) &&& (x - (1 : Int32))).toUInt32 >>> ((16 : Int32) &&& 31).toUInt32).toInt32))])
        by_cases c52_7 : (16 : Int32) < ((((x ^^^ (-1 : Int32)) &&& (x - (1 : Int32))).toUInt32 >>> ((16 : Int32) &&& 31).toUInt32).toInt32)
        · refine Go.step (fun tt kk => XS.icmpNo X0.here hx rfl (hb hby d17_52) rfl (tlt c52_7).2.2.2 kk) ?_
          show Go _ _ _ _ _ _ _ T0 (mkF m 55 #[_, _] [])
          refine Go.step (fun tt kk => XS.iinc X0.here hx rfl (hb hby d17_55) rfl (l' := #[.val (.int ((((x ^^^ (-1 : Int32)) &&& (x - (1 : Int32))).toUInt32 >>> ((16 : Int32) &&& 31).toUInt32).toInt32)), .val (.int (21 : Int32))]) rfl kk) ?_
          show Go _ _ _ _ _ _ _ T0 (mkF m 58 #[_, _] [])
          refine Go.step (fun tt kk => XS.iloadN X0.here hx rfl (hb hby d17_58) rfl kk) ?_
          show Go _ _ _ _ _ _ _ T0 (mkF m 59 #[_, _] [(.int ((((x ^^^ (-1 : Int32)) &&& (x - (1 : Int32))).toUInt32 >>> ((16 : Int32) &&& 31).toUInt32).toInt32))])
          refine Go.step (fun tt kk => XS.iconst X0.here hx rfl (hb hby d17_59) kk) ?_
          show Go _ _ _ _ _ _ _ T0 (mkF m 60 #[_, _] [(.int (4 : Int32)), (.int ((((x ^^^ (-1 : Int32)) &&& (x - (1 : Int32))).toUInt32 >>> ((16 : Int32) &&& 31).toUInt32).toInt32))])
          refine Go.step (fun tt kk => XS.iushr X0.here hx rfl (hb hby d17_60) rfl kk) ?_
          show Go _ _ _ _ _ _ _ T0 (mkF m 61 #[_, _] [(.int ((((((x ^^^ (-1 : Int32)) &&& (x - (1 : Int32))).toUInt32 >>> ((16 : Int32) &&& 31).toUInt32).toInt32).toUInt32 >>> ((4 : Int32) &&& 31).toUInt32).toInt32))])
          refine Go.step (fun tt kk => XS.istoreN X0.here hx rfl (hb hby d17_61) rfl (l' := #[.val (.int ((((((x ^^^ (-1 : Int32)) &&& (x - (1 : Int32))).toUInt32 >>> ((16 : Int32) &&& 31).toUInt32).toInt32).toUInt32 >>> ((4 : Int32) &&& 31).toUInt32).toInt32)), .val (.int (21 : Int32))]) rfl kk) ?_
          show Go _ _ _ _ _ _ _ T0 (mkF m 62 #[_, _] [])
          refine Go.step (fun tt kk => XS.iloadN X0.here hx rfl (hb hby d17_62) rfl kk) ?_
          show Go _ _ _ _ _ _ _ T0 (mkF m 63 #[_, _] [(.int ((((((x ^^^ (-1 : Int32)) &&& (x - (1 : Int32))).toUInt32 >>> ((16 : Int32) &&& 31).toUInt32).toInt32).toUInt32 >>> ((4 : Int32) &&& 31).toUInt32).toInt32))])
          refine Go.step (fun tt kk => XS.iconst X0.here hx rfl (hb hby d17_63) kk) ?_
          show Go _ _ _ _ _ _ _ T0 (mkF m 64 #[_, _] [(.int (4 : Int32)), (.int ((((((x ^^^ (-1 : Int32)) &&& (x - (1 : Int32))).toUInt32 >>> ((16 : Int32) &&& 31).toUInt32).toInt32).toUInt32 >>> ((4 : Int32) &&& 31).toUInt32).toInt32))])
          by_cases c64_8 : (4 : Int32) < ((((((x ^^^ (-1 : Int32)) &&& (x - (1 : Int32))).toUInt32 >>> ((16 : Int32) &&& 31).toUInt32).toInt32).toUInt32 >>> ((4 : Int32) &&& 31).toUInt32).toInt32)
          · refine Go.step (fun tt kk => XS.icmpNo X0.here hx rfl (hb hby d17_64) rfl (tlt c64_8).2.2.2 kk) ?_
            show Go _ _ _ _ _ _ _ T0 (mkF m 67 #[_, _] [])
            refine Go.step (fun tt kk => XS.iinc X0.here hx rfl (hb hby d17_67) rfl (l' := #[.val (.int ((((((x ^^^ (-1 : Int32)) &&& (x - (1 : Int32))).toUInt32 >>> ((16 : Int32) &&& 31).toUInt32).toInt32).toUInt32 >>> ((4 : Int32) &&& 31).toUInt32).toInt32)), .val (.int (23 : Int32))]) rfl kk) ?_
            show Go _ _ _ _ _ _ _ T0 (mkF m 70 #[_, _] [])
            refine Go.step (fun tt kk => XS.iloadN X0.here hx rfl (hb hby d17_70) rfl kk) ?_
            show Go _ _ _ _ _ _ _ T0 (mkF m 71 #[_, _] [(.int ((((((x ^^^ (-1 : Int32)) &&& (x - (1 : Int32))).toUInt32 >>> ((16 : Int32) &&& 31).toUInt32).toInt32).toUInt32 >>> ((4 : Int32) &&& 31).toUInt32).toInt32))])
            refine Go.step (fun tt kk => XS.iconst X0.here hx rfl (hb hby d17_71) kk) ?_
            show Go _ _ _ _ _ _ _ T0 (mkF m 72 #[_, _] [(.int (2 : Int32)), (.int ((((((x ^^^ (-1 : Int32)) &&& (x - (1 : Int32))).toUInt32 >>> ((16 : Int32) &&& 31).toUInt32).toInt32).toUInt32 >>> ((4 : Int32) &&& 31).toUInt32).toInt32))])
            refine Go.step (fun tt kk => XS.iushr X0.here hx rfl (hb hby d17_72) rfl kk) ?_
            show Go _ _ _ _ _ _ _ T0 (mkF m 73 #[_, _] [(.int ((((((((x ^^^ (-1 : Int32)) &&& (x - (1 : Int32))).toUInt32 >>> ((16 : Int32) &&& 31).toUInt32).toInt32).toUInt32 >>> ((4 : Int32) &&& 31).toUInt32).toInt32).toUInt32 >>> ((2 : Int32) &&& 31).toUInt32).toInt32))])
            refine Go.step (fun tt kk => XS.istoreN X0.here hx rfl (hb hby d17_73) rfl (l' := #[.val (.int ((((((((x ^^^ (-1 : Int32)) &&& (x - (1 : Int32))).toUInt32 >>> ((16 : Int32) &&& 31).toUInt32).toInt32).toUInt32 >>> ((4 : Int32) &&& 31).toUInt32).toInt32).toUInt32 >>> ((2 : Int32) &&& 31).toUInt32).toInt32)), .val (.int (23 : Int32))]) rfl kk) ?_
            show Go _ _ _ _ _ _ _ T0 (mkF m 74 #[_, _] [])
            refine Go.step (fun tt kk => XS.iloadN X0.here hx rfl (hb hby d17_74) rfl kk) ?_
            show Go _ _ _ _ _ _ _ T0 (mkF m 75 #[_, _] [(.int (23 : Int32))])
            refine Go.step (fun tt kk => XS.iloadN X0.here hx rfl (hb hby d17_75) rfl kk) ?_
            show Go _ _ _ _ _ _ _ T0 (mkF m 76 #[_, _] [(.int ((((((((x ^^^ (-1 : Int32)) &&& (x - (1 : Int32))).toUInt32 >>> ((16 : Int32) &&& 31).toUInt32).toInt32).toUInt32 >>> ((4 : Int32) &&& 31).toUInt32).toInt32).toUInt32 >>> ((2 : Int32) &&& 31).toUInt32).toInt32)), (.int (23 : Int32))])
            refine Go.step (fun tt kk => XS.iconst X0.here hx rfl (hb hby d17_76) kk) ?_
            show Go _ _ _ _ _ _ _ T0 (mkF m 77 #[_, _] [(.int (1 : Int32)), (.int ((((((((x ^^^ (-1 : Int32)) &&& (x - (1 : Int32))).toUInt32 >>> ((16 : Int32) &&& 31).toUInt32).toInt32).toUInt32 >>> ((4 : Int32) &&& 31).toUInt32).toInt32).toUInt32 >>> ((2 : Int32) &&& 31).toUInt32).toInt32)), (.int (23 : Int32))])
            refine Go.step (fun tt kk => XS.iushr X0.here hx rfl (hb hby d17_77) rfl kk) ?_
            show Go _ _ _ _ _ _ _ T0 (mkF m 78 #[_, _] [(.int ((((((((((x ^^^ (-1 : Int32)) &&& (x - (1 : Int32))).toUInt32 >>> ((16 : Int32) &&& 31).toUInt32).toInt32).toUInt32 >>> ((4 : Int32) &&& 31).toUInt32).toInt32).toUInt32 >>> ((2 : Int32) &&& 31).toUInt32).toInt32).toUInt32 >>> ((1 : Int32) &&& 31).toUInt32).toInt32)), (.int (23 : Int32))])
            refine Go.step (fun tt kk => XS.iadd X0.here hx rfl (hb hby d17_78) rfl kk) ?_
            show Go _ _ _ _ _ _ _ T0 (mkF m 79 #[_, _] [(.int ((23 : Int32) + ((((((((((x ^^^ (-1 : Int32)) &&& (x - (1 : Int32))).toUInt32 >>> ((16 : Int32) &&& 31).toUInt32).toInt32).toUInt32 >>> ((4 : Int32) &&& 31).toUInt32).toInt32).toUInt32 >>> ((2 : Int32) &&& 31).toUInt32).toInt32).toUInt32 >>> ((1 : Int32) &&& 31).toUInt32).toInt32)))])
            refine go_retI X0 hx hret hlk (hb hby d17_79) ?_ (by decide) (by decide)
            try rw [e0]
            exact ⟨congrArg (fun z => some (Value.int z)) (by simp only [ntzI, n1, n2, n3, n4, i1, i2, i3, i4, us, z0, eq_true c9_1, eq_true c23_2, eq_false c38_3, eq_true c52_7, eq_true c64_8, if_true, if_false, Int32.reduceAdd]), rfl, rfl⟩
          · refine Go.step (fun tt kk => XS.icmpYes X0.here hx rfl (pc0 := 64) (pc' := 74) rfl (hb hby d17_64) rfl (flt c64_8).2.2.2 (by decide) (by decide) kk) ?_
            show Go _ _ _ _ _ _ _ T0 (mkF m 74 #[_, _] [])
            refine Go.step (fun tt kk => XS.iloadN X0.here hx rfl (hb hby d17_74) rfl kk) ?_
            show Go _ _ _ _ _ _ _ T0 (mkF m 75 #[_, _] [(.int (21 : Int32))])
            refine Go.step (fun tt kk => XS.iloadN X0.here hx rfl (hb hby d17_75) rfl kk) ?_
            show Go _ _ _ _ _ _ _ T0 (mkF m 76 #[_, _] [(.int ((((((x ^^^ (-1 : Int32)) &&& (x - (1 : Int32))).toUInt32 >>> ((16 : Int32) &&& 31).toUInt32).toInt32).toUInt32 >>> ((4 : Int32) &&& 31).toUInt32).toInt32)), (.int (21 : Int32))])
            refine Go.step (fun tt kk => XS.iconst X0.here hx rfl (hb hby d17_76) kk) ?_
            show Go _ _ _ _ _ _ _ T0 (mkF m 77 #[_, _] [(.int (1 : Int32)), (.int ((((((x ^^^ (-1 : Int32)) &&& (x - (1 : Int32))).toUInt32 >>> ((16 : Int32) &&& 31).toUInt32).toInt32).toUInt32 >>> ((4 : Int32) &&& 31).toUInt32).toInt32)), (.int (21 : Int32))])
            refine Go.step (fun tt kk => XS.iushr X0.here hx rfl (hb hby d17_77) rfl kk) ?_
            show Go _ _ _ _ _ _ _ T0 (mkF m 78 #[_, _] [(.int ((((((((x ^^^ (-1 : Int32)) &&& (x - (1 : Int32))).toUInt32 >>> ((16 : Int32) &&& 31).toUInt32).toInt32).toUInt32 >>> ((4 : Int32) &&& 31).toUInt32).toInt32).toUInt32 >>> ((1 : Int32) &&& 31).toUInt32).toInt32)), (.int (21 : Int32))])
            refine Go.step (fun tt kk => XS.iadd X0.here hx rfl (hb hby d17_78) rfl kk) ?_
            show Go _ _ _ _ _ _ _ T0 (mkF m 79 #[_, _] [(.int ((21 : Int32) + ((((((((x ^^^ (-1 : Int32)) &&& (x - (1 : Int32))).toUInt32 >>> ((16 : Int32) &&& 31).toUInt32).toInt32).toUInt32 >>> ((4 : Int32) &&& 31).toUInt32).toInt32).toUInt32 >>> ((1 : Int32) &&& 31).toUInt32).toInt32)))])
            refine go_retI X0 hx hret hlk (hb hby d17_79) ?_ (by decide) (by decide)
            try rw [e0]
            exact ⟨congrArg (fun z => some (Value.int z)) (by simp only [ntzI, n1, n2, n3, n4, i1, i2, i3, i4, us, z0, eq_true c9_1, eq_true c23_2, eq_false c38_3, eq_true c52_7, eq_false c64_8, if_true, if_false, Int32.reduceAdd]), rfl, rfl⟩
        · refine Go.step (fun tt kk => XS.icmpYes X0.here hx rfl (pc0 := 52) (pc' := 62) rfl (hb hby d17_52) rfl (flt c52_7).2.2.2 (by decide) (by decide) kk) ?_
          show Go _ _ _ _ _ _ _ T0 (mkF m 62 #[_, _] [])
          refine Go.step (fun tt kk => XS.iloadN X0.here hx rfl (hb hby d17_62) rfl kk) ?_
          show Go _ _ _ _ _ _ _ T0 (mkF m 63 #[_, _] [(.int ((((x ^^^ (-1 : Int32)) &&& (x - (1 : Int32))).toUInt32 >>> ((16 : Int32) &&& 31).toUInt32).toInt32))])
          refine Go.step (fun tt kk => XS.iconst X0.here hx rfl (hb hby d17_63) kk) ?_
          show Go _ _ _ _ _ _ _ T0 (mkF m 64 #[_, _] [(.int (4 : Int32)), (.int ((((x ^^^ (-1 : Int32)) &&& (x - (1 : Int32))).toUInt32 >>> ((16 : Int32) &&& 31).toUInt32).toInt32))])
          by_cases c64_9 : (4 : Int32) < ((((x ^^^ (-1 : Int32)) &&& (x - (1 : Int32))).toUInt32 >>> ((16 : Int32) &&& 31).toUInt32).toInt32)
          · refine Go.step (fun tt kk => XS.icmpNo X0.here hx rfl (hb hby d17_64) rfl (tlt c64_9).2.2.2 kk) ?_
            show Go _ _ _ _ _ _ _ T0 (mkF m 67 #[_, _] [])
            refine Go.step (fun tt kk => XS.iinc X0.here hx rfl (hb hby d17_67) rfl (l' := #[.val (.int ((((x ^^^ (-1 : Int32)) &&& (x - (1 : Int32))).toUInt32 >>> ((16 : Int32) &&& 31).toUInt32).toInt32)), .val (.int (19 : Int32))]) rfl kk) ?_
            show Go _ _ _ _ _ _ _ T0 (mkF m 70 #[_, _] [])
            refine Go.step (fun tt kk => XS.iloadN X0.here hx rfl (hb hby d17_70) rfl kk) ?_
            show Go _ _ _ _ _ _ _ T0 (mkF m 71 #[_, _] [(.int ((((x ^^^ (-1 : Int32)) &&& (x - (1 : Int32))).toUInt32 >>> ((16 : Int32) &&& 31).toUInt32).toInt32))])
            refine Go.step (fun tt kk => XS.iconst X0.here hx rfl (hb hby d17_71) kk) ?_
            show Go _ _ _ _ _ _ _ T0 (mkF m 72 #[_, _] [(.int (2 : Int32)), (.int ((((x ^^^ (-1 : Int32)) &&& (x - (1 : Int32))).toUInt32 >>> ((16 : Int32) &&& 31).toUInt32).toInt32))])
            refine Go.step (fun tt kk => XS.iushr X0.here hx rfl (hb hby d17_72) rfl kk) ?_
            show Go _ _ _ _ _ _ _ T0 (mkF m 73 #[_, _] [(.int ((((((x ^^^ (-1 : Int32)) &&& (x - (1 : Int32))).toUInt32 >>> ((16 : Int32) &&& 31).toUInt32).toInt32).toUInt32 >>> ((2 : Int32) &&& 31).toUInt32).toInt32))])
            refine Go.step (fun tt kk => XS.istoreN X0.here hx rfl (hb hby d17_73) rfl (l' := #[.val (.int ((((((x ^^^ (-1 : Int32)) &&& (x - (1 : Int32))).toUInt32 >>> ((16 : Int32) &&& 31).toUInt32).toInt32).toUInt32 >>> ((2 : Int32) &&& 31).toUInt32).toInt32)), .val (.int (19 : Int32))]) rfl kk) ?_
            show Go _ _ _ _ _ _ _ T0 (mkF m 74 #[_, _] [])
            refine Go.step (fun tt kk => XS.iloadN X0.here hx rfl (hb hby d17_74) rfl kk) ?_
            show Go _ _ _ _ _ _ _ T0 (mkF m 75 #[_, _] [(.int (19 : Int32))])
            refine Go.step (fun tt kk => XS.iloadN X0.here hx rfl (hb hby d17_75) rfl kk) ?_
            show Go _ _ _ _ _ _ _ T0 (mkF m 76 #[_, _] [(.int ((((((x ^^^ (-1 : Int32)) &&& (x - (1 : Int32))).toUInt32 >>> ((16 : Int32) &&& 31).toUInt32).toInt32).toUInt32 >>> ((2 : Int32) &&& 31).toUInt32).toInt32)), (.int (19 : Int32))])
            refine Go.step (fun tt kk => XS.iconst X0.here hx rfl (hb hby d17_76) kk) ?_
            show Go _ _ _ _ _ _ _ T0 (mkF m 77 #[_, _] [(.int (1 : Int32)), (.int ((((((x ^^^ (-1 : Int32)) &&& (x - (1 : Int32))).toUInt32 >>> ((16 : Int32) &&& 31).toUInt32).toInt32).toUInt32 >>> ((2 : Int32) &&& 31).toUInt32).toInt32)), (.int (19 : Int32))])
            refine Go.step (fun tt kk => XS.iushr X0.here hx rfl (hb hby d17_77) rfl kk) ?_
            show Go _ _ _ _ _ _ _ T0 (mkF m 78 #[_, _] [(.int ((((((((x ^^^ (-1 : Int32)) &&& (x - (1 : Int32))).toUInt32 >>> ((16 : Int32) &&& 31).toUInt32).toInt32).toUInt32 >>> ((2 : Int32) &&& 31).toUInt32).toInt32).toUInt32 >>> ((1 : Int32) &&& 31).toUInt32).toInt32)), (.int (19 : Int32))])
            refine Go.step (fun tt kk => XS.iadd X0.here hx rfl (hb hby d17_78) rfl kk) ?_
            show Go _ _ _ _ _ _ _ T0 (mkF m 79 #[_, _] [(.int ((19 : Int32) + ((((((((x ^^^ (-1 : Int32)) &&& (x - (1 : Int32))).toUInt32 >>> ((16 : Int32) &&& 31).toUInt32).toInt32).toUInt32 >>> ((2 : Int32) &&& 31).toUInt32).toInt32).toUInt32 >>> ((1 : Int32) &&& 31).toUInt32).toInt32)))])
            refine go_retI X0 hx hret hlk (hb hby d17_79) ?_ (by decide) (by decide)
            try rw [e0]
            exact ⟨congrArg (fun z => some (Value.int z)) (by simp only [ntzI, n1, n2, n3, n4, i1, i2, i3, i4, us, z0, eq_true c9_1, eq_true c23_2, eq_false c38_3, eq_false c52_7, eq_true c64_9, if_true, if_false, Int32.reduceAdd]), rfl, rfl⟩
          · refine Go.step (fun tt kk => XS.icmpYes X0.here hx rfl (pc0 := 64) (pc' := 74) rfl (hb hby d17_64) rfl (flt c64_9).2.2.2 (by decide) (by decide) kk) ?_
            show Go _ _ _ _ _ _ _ T0 (mkF m 74 #[_, _] [])
            refine Go.step (fun tt kk => XS.iloadN X0.here hx rfl (hb hby d17_74) rfl kk) ?_
            show Go _ _ _ _ _ _ _ T0 (mkF m 75 #[_, _] [(.int (17 : Int32))])
            refine Go.step (fun tt kk => XS.iloadN X0.here hx rfl (hb hby d17_75) rfl kk) ?_
            show Go _ _ _ _ _ _ _ T0 (mkF m 76 #[_, _] [(.int ((((x ^^^ (-1 : Int32)) &&& (x - (1 : Int32))).toUInt32 >>> ((16 : Int32) &&& 31).toUInt32).toInt32)), (.int (17 : Int32))])
            refine Go.step (fun tt kk => XS.iconst X0.here hx rfl (hb hby d17_76) kk) ?_
            show Go _ _ _ _ _ _ _ T0 (mkF m 77 #[_, _] [(.int (1 : Int32)), (.int ((((x ^^^ (-1 : Int32)) &&& (x - (1 : Int32))).toUInt32 >>> ((16 : Int32) &&& 31).toUInt32).toInt32)), (.int (17 : Int32))])
            refine Go.step (fun tt kk => XS.iushr X0.here hx rfl (hb hby d17_77) rfl kk) ?_
            show Go _ _ _ _ _ _ _ T0 (mkF m 78 #[_, _] [(.int ((((((x ^^^ (-1 : Int32)) &&& (x - (1 : Int32))).toUInt32 >>> ((16 : Int32) &&& 31).toUInt32).toInt32).toUInt32 >>> ((1 : Int32) &&& 31).toUInt32).toInt32)), (.int (17 : Int32))])
            refine Go.step (fun tt kk => XS.iadd X0.here hx rfl (hb hby d17_78) rfl kk) ?_
            show Go _ _ _ _ _ _ _ T0 (mkF m 79 #[_, _] [(.int ((17 : Int32) + ((((((x ^^^ (-1 : Int32)) &&& (x - (1 : Int32))).toUInt32 >>> ((16 : Int32) &&& 31).toUInt32).toInt32).toUInt32 >>> ((1 : Int32) &&& 31).toUInt32).toInt32)))])
            refine go_retI X0 hx hret hlk (hb hby d17_79) ?_ (by decide) (by decide)
            try rw [e0]
            exact ⟨congrArg (fun z => some (Value.int z)) (by simp only [ntzI, n1, n2, n3, n4, i1, i2, i3, i4, us, z0, eq_true c9_1, eq_true c23_2, eq_false c38_3, eq_false c52_7, eq_false c64_9, if_true, if_false, Int32.reduceAdd]), rfl, rfl⟩
    · refine Go.step (fun tt kk => XS.icmpYes X0.here hx rfl (pc0 := 23) (pc' := 34) rfl (hb hby d17_23) rfl (flt c23_2).2.2.2 (by decide) (by decide) kk) ?_
      show Go _ _ _ _ _ _ _ T0 (mkF m 34 #[_, _] [])
      refine Go.step (fun tt kk => XS.iloadN X0.here hx rfl (hb hby d17_34) rfl kk) ?_
      show Go _ _ _ _ _ _ _ T0 (mkF m 35 #[_, _] [(.int ((x ^^^ (-1 : Int32)) &&& (x - (1 : Int32))))])
      refine Go.step (fun tt kk => XS.sipush X0.here hx rfl (hb hby d17_35) kk) ?_
      show Go _ _ _ _ _ _ _ T0 (mkF m 38 #[_, _] [(.int (256 : Int32)), (.int ((x ^^^ (-1 : Int32)) &&& (x - (1 : Int32))))])
      by_cases c38_10 : (256 : Int32) < ((x ^^^ (-1 : Int32)) &&& (x - (1 : Int32)))
      · refine Go.step (fun tt kk => XS.icmpNo X0.here hx rfl (hb hby d17_38) rfl (tlt c38_10).2.2.2 kk) ?_
        show Go _ _ _ _ _ _ _ T0 (mkF m 41 #[_, _] [])
        refine Go.step (fun tt kk => XS.iinc X0.here hx rfl (hb hby d17_41) rfl (l' := #[.val (.int ((x ^^^ (-1 : Int32)) &&& (x - (1 : Int32)))), .val (.int (9 : Int32))]) rfl kk) ?_
        show Go _ _ _ _ _ _ _ T0 (mkF m 44 #[_, _] [])
        refine Go.step (fun tt kk => XS.iloadN X0.here hx rfl (hb hby d17_44) rfl kk) ?_
        show Go _ _ _ _ _ _ _ T0 (mkF m 45 #[_, _] [(.int ((x ^^^ (-1 : Int32)) &&& (x - (1 : Int32))))])
        refine Go.step (fun tt kk => XS.bipush X0.here hx rfl (hb hby d17_45) kk) ?_
        show Go _ _ _ _ _ _ _ T0 (mkF m 47 #[_, _] [(.int (8 : Int32)), (.int ((x ^^^ (-1 : Int32)) &&& (x - (1 : Int32))))])
        refine Go.step (fun tt kk => XS.iushr X0.here hx rfl (hb hby d17_47) rfl kk) ?_
        show Go _ _ _ _ _ _ _ T0 (mkF m 48 #[_, _] [(.int ((((x ^^^ (-1 : Int32)) &&& (x - (1 : Int32))).toUInt32 >>> ((8 : Int32) &&& 31).toUInt32).toInt32))])
        refine Go.step (fun tt kk => XS.istoreN X0.here hx rfl (hb hby d17_48) rfl (l' := #[.val (.int ((((x ^^^ (-1 : Int32)) &&& (x - (1 : Int32))).toUInt32 >>> ((8 : Int32) &&& 31).toUInt32).toInt32)), .val (.int (9 : Int32))]) rfl kk) ?_
        show Go _ _ _ _ _ _ _ T0 (mkF m 49 #[_, _] [])
        refine Go.step (fun tt kk => XS.iloadN X0.here hx rfl (hb hby d17_49) rfl kk) ?_
        show Go _ _ _ _ _ _ _ T0 (mkF m 50 #[_, _] [(.int ((((x ^^^ (-1 : Int32)) &&& (x - (1 : Int32))).toUInt32 >>> ((8 : Int32) &&& 31).toUInt32).toInt32))])
        refine Go.step (fun tt kk => XS.bipush X0.here hx rfl (hb hby d17_50) kk) ?_
        show Go _ _ _ _ _ _ _ T0 (mkF m 52 #[_, _] [(.int (16 : Int32)), (.int ((((x ^^^ (-1 : Int32)) &&& (x - (1 : Int32))).toUInt32 >>> ((8 : Int32) &&& 31).toUInt32).toInt32))])
        by_cases c52_11 : (16 : Int32) < ((((x ^^^ (-1 : Int32)) &&& (x - (1 : Int32))).toUInt32 >>> ((8 : Int32) &&& 31).toUInt32).toInt32)
        · refine Go.step (fun tt kk => XS.icmpNo X0.here hx rfl (hb hby d17_52) rfl (tlt c52_11).2.2.2 kk) ?_
          show Go _ _ _ _ _ _ _ T0 (mkF m 55 #[_, _] [])
          refine Go.step (fun tt kk => XS.iinc X0.here hx rfl (hb hby d17_55) rfl (l' := #[.val (.int ((((x ^^^ (-1 : Int32)) &&& (x - (1 : Int32))).toUInt32 >>> ((8 : Int32) &&& 31).toUInt32).toInt32)), .val (.int (13 : Int32))]) rfl kk) ?_
          show Go _ _ _ _ _ _ _ T0 (mkF m 58 #[_, _] [])
          refine Go.step (fun tt kk => XS.iloadN X0.here hx rfl (hb hby d17_58) rfl kk) ?_
          show Go _ _ _ _ _ _ _ T0 (mkF m 59 #[_, _] [(.int ((((x ^^^ (-1 : Int32)) &&& (x - (1 : Int32))).toUInt32 >>> ((8 : Int32) &&& 31).toUInt32).toInt32))])
          refine Go.step (fun tt kk => XS.iconst X0.here hx rfl (hb hby d17_59) kk) ?_
          show Go _ _ _ _ _ _ _ T0 (mkF m 60 #[_, _] [(.int (4 : Int32)), (.int ((((x ^^^ (-1 : Int32)) &&& (x - (1 : Int32))).toUInt32 >>> ((8 : Int32) &&& 31).toUInt32).toInt32))])
          refine Go.step (fun tt kk => XS.iushr X0.here hx rfl (hb hby d17_60) rfl kk) ?_
          show Go _ _ _ _ _ _ _ T0 (mkF m 61 #[_, _] [(.int ((((((x ^^^ (-1 : Int32)) &&& (x - (1 : Int32))).toUInt32 >>> ((8 : Int32) &&& 31).toUInt32).toInt32).toUInt32 >>> ((4 : Int32) &&& 31).toUInt32).toInt32))])
          refine Go.step (fun tt kk => XS.istoreN X0.here hx rfl (hb hby d17_61) rfl (l' := #[.val (.int ((((((x ^^^ (-1 : Int32)) &&& (x - (1 : Int32))).toUInt32 >>> ((8 : Int32) &&& 31).toUInt32).toInt32).toUInt32 >>> ((4 : Int32) &&& 31).toUInt32).toInt32)), .val (.int (13 : Int32))]) rfl kk) ?_
          show Go _ _ _ _ _ _ _ T0 (mkF m 62 #[_, _] [])
          refine Go.step (fun tt kk => XS.iloadN X0.here hx rfl (hb hby d17_62) rfl kk) ?_
          show Go _ _ _ _ _ _ _ T0 (mkF m 63 #[_, _] [(.int ((((((x ^^^ (-1 : Int32)) &&& (x - (1 : Int32))).toUInt32 >>> ((8 : Int32) &&& 31).toUInt32).toInt32).toUInt32 >>> ((4 : Int32) &&& 31).toUInt32).toInt32))])
          refine Go.step (fun tt kk => XS.iconst X0.here hx rfl (hb hby d17_63) kk) ?_
          show Go _ _ _ _ _ _ _ T0 (mkF m 64 #[_, _] [(.int (4 : Int32)), (.int ((((((x ^^^ (-1 : Int32)) &&& (x - (1 : Int32))).toUInt32 >>> ((8 : Int32) &&& 31).toUInt32).toInt32).toUInt32 >>> ((4 : Int32) &&& 31).toUInt32).toInt32))])
          by_cases c64_12 : (4 : Int32) < ((((((x ^^^ (-1 : Int32)) &&& (x - (1 : Int32))).toUInt32 >>> ((8 : Int32) &&& 31).toUInt32).toInt32).toUInt32 >>> ((4 : Int32) &&& 31).toUInt32).toInt32)
          · refine Go.step (fun tt kk => XS.icmpNo X0.here hx rfl (hb hby d17_64) rfl (tlt c64_12).2.2.2 kk) ?_
            show Go _ _ _ _ _ _ _ T0 (mkF m 67 #[_, _] [])
            refine Go.step (fun tt kk => XS.iinc X0.here hx rfl (hb hby d17_67) rfl (l' := #[.val (.int ((((((x ^^^ (-1 : Int32)) &&& (x - (1 : Int32))).toUInt32 >>> ((8 : Int32) &&& 31).toUInt32).toInt32).toUInt32 >>> ((4 : Int32) &&& 31).toUInt32).toInt32)), .val (.int (15 : Int32))]) rfl kk) ?_
            show Go _ _ _ _ _ _ _ T0 (mkF m 70 #[_, _] [])
            refine Go.step (fun tt kk => XS.iloadN X0.here hx rfl (hb hby d17_70) rfl kk) ?_
            show Go _ _ _ _ _ _ _ T0 (mkF m 71 #[_, _] [(.int ((((((x ^^^ (-1 : Int32)) &&& (x - (1 : Int32))).toUInt32 >>> ((8 : Int32) &&& 31).toUInt32).toInt32).toUInt32 >>> ((4 : Int32) &&& 31).toUInt32).toInt32))])
            refine Go.step (fun tt kk => XS.iconst X0.here hx rfl (hb hby d17_71) kk) ?_
            show Go _ _ _ _ _ _ _ T0 (mkF m 72 #[_, _] [(.int (2 : Int32)), (.int ((((((x ^^^ (-1 : Int32)) &&& (x - (1 : Int32))).toUInt32 >>> ((8 : Int32) &&& 31).toUInt32).toInt32).toUInt32 >>> ((4 : Int32) &&& 31).toUInt32).toInt32))])
            refine Go.step (fun tt kk => XS.iushr X0.here hx rfl (hb hby d17_72) rfl kk) ?_
            show Go _ _ _ _ _ _ _ T0 (mkF m 73 #[_, _] [(.int ((((((((x ^^^ (-1 : Int32)) &&& (x - (1 : Int32))).toUInt32 >>> ((8 : Int32) &&& 31).toUInt32).toInt32).toUInt32 >>> ((4 : Int32) &&& 31).toUInt32).toInt32).toUInt32 >>> ((2 : Int32) &&& 31).toUInt32).toInt32))])
            refine Go.step (fun tt kk => XS.istoreN X0.here hx rfl (hb hby d17_73) rfl (l' := #[.val (.int ((((((((x ^^^ (-1 : Int32)) &&& (x - (1 : Int32))).toUInt32 >>> ((8 : Int32) &&& 31).toUInt32).toInt32).toUInt32 >>> ((4 : Int32) &&& 31).toUInt32).toInt32).toUInt32 >>> ((2 : Int32) &&& 31).toUInt32).toInt32)), .val (.int (15 : Int32))]) rfl kk) ?_
            show Go _ _ _ _ _ _ _ T0 (mkF m 74 #[_, _] [])
            refine Go.step (fun tt kk => XS.iloadN X0.here hx rfl (hb hby d17_74) rfl kk) ?_
            show Go _ _ _ _ _ _ _ T0 (mkF m 75 #[_, _] [(.int (15 : Int32))])
            refine Go.step (fun tt kk => XS.iloadN X0.here hx rfl (hb hby d17_75) rfl kk) ?_
            show Go _ _ _ _ _ _ _ T0 (mkF m 76 #[_, _] [(.int ((((((((x ^^^ (-1 : Int32)) &&& (x - (1 : Int32))).toUInt32 >>> ((8 : Int32) &&& 31).toUInt32).toInt32).toUInt32 >>> ((4 : Int32) &&& 31).toUInt32).toInt32).toUInt32 >>> ((2 : Int32) &&& 31).toUInt32).toInt32)), (.int (15 : Int32))])
            refine Go.step (fun tt kk => XS.iconst X0.here hx rfl (hb hby d17_76) kk) ?_
            show Go _ _ _ _ _ _ _ T0 (mkF m 77 #[_, _] [(.int (1 : Int32)), (.int ((((((((x ^^^ (-1 : Int32)) &&& (x - (1 : Int32))).toUInt32 >>> ((8 : Int32) &&& 31).toUInt32).toInt32).toUInt32 >>> ((4 : Int32) &&& 31).toUInt32).toInt32).toUInt32 >>> ((2 : Int32) &&& 31).toUInt32).toInt32)), (.int (15 : Int32))])
            refine Go.step (fun tt kk => XS.iushr X0.here hx rfl (hb hby d17_77) rfl kk) ?_
            show Go _ _ _ _ _ _ _ T0 (mkF m 78 #[_, _] [(.int ((((((((((x ^^^ (-1 : Int32)) &&& (x - (1 : Int32))).toUInt32 >>> ((8 : Int32) &&& 31).toUInt32).toInt32).toUInt32 >>> ((4 : Int32) &&& 31).toUInt32).toInt32).toUInt32 >>> ((2 : Int32) &&& 31).toUInt32).toInt32).toUInt32 >>> ((1 : Int32) &&& 31).toUInt32).toInt32)), (.int (15 : Int32))])
            refine Go.step (fun tt kk => XS.iadd X0.here hx rfl (hb hby d17_78) rfl kk) ?_
            show Go _ _ _ _ _ _ _ T0 (mkF m 79 #[_, _] [(.int ((15 : Int32) + ((((((((((x ^^^ (-1 : Int32)) &&& (x - (1 : Int32))).toUInt32 >>> ((8 : Int32) &&& 31).toUInt32).toInt32).toUInt32 >>> ((4 : Int32) &&& 31).toUInt32).toInt32).toUInt32 >>> ((2 : Int32) &&& 31).toUInt32).toInt32).toUInt32 >>> ((1 : Int32) &&& 31).toUInt32).toInt32)))])
            refine go_retI X0 hx hret hlk (hb hby d17_79) ?_ (by decide) (by decide)
            try rw [e0]
            exact ⟨congrArg (fun z => some (Value.int z)) (by simp only [ntzI, n1, n2, n3, n4, i1, i2, i3, i4, us, z0, eq_true c9_1, eq_false c23_2, eq_true c38_10, eq_true c52_11, eq_true c64_12, if_true, if_false, Int32.reduceAdd]), rfl, rfl⟩
          · refine Go.step (fun tt kk => XS.icmpYes X0.here hx rfl (pc0 := 64) (pc' := 74) rfl (hb hby d17_64) rfl (flt c64_12).2.2.2 (by decide) (by decide) kk) ?_
            show Go _ _ _ _ _ _ _ T0 (mkF m 74 #[_, _] [])
            refine Go.step (fun tt kk => XS.iloadN X0.here hx rfl (hb hby d17_74) rfl kk) ?_
            show Go _ _ _ _ _ _ _ T0 (mkF m 75 #[_, _] [(.int (13 : Int32))])
            refine Go.step (fun tt kk => XS.iloadN X0.here hx rfl (hb hby d17_75) rfl kk) ?_
            show Go _ _ _ _ _ _ _ T0 (mkF m 76 #[_, _] [(.int ((((((x ^^^ (-1 : Int32)) &&& (x - (1 : Int32))).toUInt32 >>> ((8 : Int32) &&& 31).toUInt32).toInt32).toUInt32 >>> ((4 : Int32) &&& 31).toUInt32).toInt32)), (.int (13 : Int32))])
            refine Go.step (fun tt kk => XS.iconst X0.here hx rfl (hb hby d17_76) kk) ?_
            show Go _ _ _ _ _ _ _ T0 (mkF m 77 #[_, _] [(.int (1 : Int32)), (.int ((((((x ^^^ (-1 : Int32)) &&& (x - (1 : Int32))).toUInt32 >>> ((8 : Int32) &&& 31).toUInt32).toInt32).toUInt32 >>> ((4 : Int32) &&& 31).toUInt32).toInt32)), (.int (13 : Int32))])
            refine Go.step (fun tt kk => XS.iushr X0.here hx rfl (hb hby d17_77) rfl kk) ?_
            show Go _ _ _ _ _ _ _ T0 (mkF m 78 #[_, _] [(.int ((((((((x ^^^ (-1 : Int32)) &&& (x - (1 : Int32))).toUInt32 >>> ((8 : Int32) &&& 31).toUInt32).toInt32).toUInt32 >>> ((4 : Int32) &&& 31).toUInt32).toInt32).toUInt32 >>> ((1 : Int32) &&& 31).toUInt32).toInt32)), (.int (13 : Int32))])
            refine Go.step (fun tt kk => XS.iadd X0.here hx rfl (hb hby d17_78) rfl kk) ?_
            show Go _ _ _ _ _ _ _ T0 (mkF m 79 #[_, _] [(.int ((13 : Int32) + ((((((((x ^^^ (-1 : Int32)) &&& (x - (1 : Int32))).toUInt32 >>> ((8 : Int32) &&& 31).toUInt32).toInt32).toUInt32 >>> ((4 : Int32) &&& 31).toUInt32).toInt32).toUInt32 >>> ((1 : Int32) &&& 31).toUInt32).toInt32)))])
            refine go_retI X0 hx hret hlk (hb hby d17_79) ?_ (by decide) (by decide)
            try rw [e0]
            exact ⟨congrArg (fun z => some (Value.int z)) (by simp only [ntzI, n1, n2, n3, n4, i1, i2, i3, i4, us, z0, eq_true c9_1, eq_false c23_2, eq_true c38_10, eq_true c52_11, eq_false c64_12, if_true, if_false, Int32.reduceAdd]), rfl, rfl⟩
        · refine Go.step (fun tt kk => XS.icmpYes X0.here hx rfl (pc0 := 52) (pc' := 62) rfl (hb hby d17_52) rfl (flt c52_11).2.2.2 (by decide) (by decide) kk) ?_
          show Go _ _ _ _ _ _ _ T0 (mkF m 62 #[_, _] [])
          refine Go.step (fun tt kk => XS.iloadN X0.here hx rfl (hb hby d17_62) rfl kk) ?_
          show Go _ _ _ _ _ _ _ T0 (mkF m 63 #[_, _] [(.int ((((x ^^^ (-1 : Int32)) &&& (x - (1 : Int32))).toUInt32 >>> ((8 : Int32) &&& 31).toUInt32).toInt32))])
          refine Go.step (fun tt kk => XS.iconst X0.here hx rfl (hb hby d17_63) kk) ?_
          show Go _ _ _ _ _ _ _ T0 (mkF m 64 #[_, _] [(.int (4 : Int32)), (.int ((((x ^^^ (-1 : Int32)) &&& (x - (1 : Int32))).toUInt32 >>> ((8 : Int32) &&& 31).toUInt32).toInt32))])
          by_cases c64_13 : (4 : Int32) < ((((x ^^^ (-1 : Int32)) &&& (x - (1 : Int32))).toUInt32 >>> ((8 : Int32) &&& 31).toUInt32).toInt32)
          · refine Go.step (fun tt kk => XS.icmpNo X0.here hx rfl (hb hby d17_64) rfl (tlt c64_13).2.2.2 kk) ?_
            show Go _ _ _ _ _ _ _ T0 (mkF m 67 #[_, _] [])
            refine Go.step (fun tt kk => XS.iinc X0.here hx rfl (hb hby d17_67) rfl (l' := #[.val (.int ((((x ^^^ (-1 : Int32)) &&& (x - (1 : Int32))).toUInt32 >>> ((8 : Int32) &&& 31).toUInt32).toInt32)), .val (.int (11 : Int32))]) rfl kk) ?_
            show Go _ _ _ _ _ _ _ T0 (mkF m 70 #[_, _] [])
            refine Go.step (fun tt kk => XS.iloadN X0.here hx rfl (hb hby d17_70) rfl kk) ?_
            show Go _ _ _ _ _ _ _ T0 (mkF m 71 #[_, _] [(.int ((((x ^^^ (-1 : Int32)) &&& (x - (1 : Int32))).toUInt32 >>> ((8 : Int32) &&& 31).toUInt32).toInt32))])
            refine Go.step (fun tt kk => XS.iconst X0.here hx rfl (hb hby d17_71) kk) ?_
            show Go _ _ _ _ _ _ _ T0 (mkF m 72 #[_, _] [(.int (2 : Int32)), (.int ((((x ^^^ (-1 : Int32)) &&& (x - (1 : Int32))).toUInt32 >>> ((8 : Int32) &&& 31).toUInt32).toInt32))])
            refine Go.step (fun tt kk => XS.iushr X0.here hx rfl (hb hby d17_72) rfl kk) ?_
            show Go _ _ _ _ _ _ _ T0 (mkF m 73 #[_, _] [(.int ((((((x ^^^ (-1 : Int32)) &&& (x - (1 : Int32))).toUInt32 >>> ((8 : Int32) &&& 31).toUInt32).toInt32).toUInt32 >>> ((2 : Int32) &&& 31).toUInt32).toInt32))])
            refine Go.step (fun tt kk => XS.istoreN X0.here hx rfl (hb hby d17_73) rfl (l' := #[.val (.int ((((((x ^^^ (-1 : Int32)) &&& (x - (1 : Int32))).toUInt32 >>> ((8 : Int32) &&& 31).toUInt32).toInt32).toUInt32 >>> ((2 : Int32) &&& 31).toUInt32).toInt32)), .val (.int (11 : Int32))]) rfl kk) ?_
            show Go _ _ _ _ _ _ _ T0 (mkF m 74 #[_, _] [])
            refine Go.step (fun tt kk => XS.iloadN X0.here hx rfl (hb hby d17_74) rfl kk) ?_
            show Go _ _ _ _ _ _ _ T0 (mkF m 75 #[_, _] [(.int (11 : Int32))])
            refine Go.step (fun tt kk => XS.iloadN X0.here hx rfl (hb hby d17_75) rfl kk) ?_
            show Go _ _ _ _ _ _ _ T0 (mkF m 76 #[_, _] [(.int ((((((x ^^^ (-1 : Int32)) &&& (x - (1 : Int32))).toUInt32 >>> ((8 : Int32) &&& 31).toUInt32).toInt32).toUInt32 >>> ((2 : Int32) &&& 31).toUInt32).toInt32)), (.int (11 : Int32))])
            refine Go.step (fun tt kk => XS.iconst X0.here hx rfl (hb hby d17_76) kk) ?_
            show Go _ _ _ _ _ _ _ T0 (mkF m 77 #[_, _] [(.int (1 : Int32)), (.int ((((((x ^^^ (-1 : Int32)) &&& (x - (1 : Int32))).toUInt32 >>> ((8 : Int32) &&& 31).toUInt32).toInt32).toUInt32 >>> ((2 : Int32) &&& 31).toUInt32).toInt32)), (.int (11 : Int32))])
            refine Go.step (fun tt kk => XS.iushr X0.here hx rfl (hb hby d17_77) rfl kk) ?_
            show Go _ _ _ _ _ _ _ T0 (mkF m 78 #[_, _] [(.int ((((((((x ^^^ (-1 : Int32)) &&& (x - (1 : Int32))).toUInt32 >>> ((8 : Int32) &&& 31).toUInt32).toInt32).toUInt32 >>> ((2 : Int32) &&& 31).toUInt32).toInt32).toUInt32 >>> ((1 : Int32) &&& 31).toUInt32).toInt32)), (.int (11 : Int32))])
            refine Go.step (fun tt kk => XS.iadd X0.here hx rfl (hb hby d17_78) rfl kk) ?_
            show Go _ _ _ _ _ _ _ T0 (mkF m 79 #[_, _] [(.int ((11 : Int32) + ((((((((x ^^^ (-1 : Int32)) &&& (x - (1 : Int32))).toUInt32 >>> ((8 : Int32) &&& 31).toUInt32).toInt32).toUInt32 >>> ((2 : Int32) &&& 31).toUInt32).toInt32).toUInt32 >>> ((1 : Int32) &&& 31).toUInt32).toInt32)))])
            refine go_retI X0 hx hret hlk (hb hby d17_79) ?_ (by decide) (by decide)
            try rw [e0]
            exact ⟨congrArg (fun z => some (Value.int z)) (by simp only [ntzI, n1, n2, n3, n4, i1, i2, i3, i4, us, z0, eq_true c9_1, eq_false c23_2, eq_true c38_10, eq_false c52_11, eq_true c64_13, if_true, if_false, Int32.reduceAdd]), rfl, rfl⟩
          · refine Go.step (fun tt kk => XS.icmpYes X0.here hx rfl (pc0 := 64) (pc' := 74) rfl (hb hby d17_64) rfl (flt c64_13).2.2.2 (by decide) (by decide) kk) ?_
            show Go _ _ _ _ _ _ _ T0 (mkF m 74 #[_, _] [])
            refine Go.step (fun tt kk => XS.iloadN X0.here hx rfl (hb hby d17_74) rfl kk) ?_
            show Go _ _ _ _ _ _ _ T0 (mkF m 75 #[_, _] [(.int (9 : Int32))])
            refine Go.step (fun tt kk => XS.iloadN X0.here hx rfl (hb hby d17_75) rfl kk) ?_
            show Go _ _ _ _ _ _ _ T0 (mkF m 76 #[_, _] [(.int ((((x ^^^ (-1 : Int32)) &&& (x - (1 : Int32))).toUInt32 >>> ((8 : Int32) &&& 31).toUInt32).toInt32)), (.int (9 : Int32))])
            refine Go.step (fun tt kk => XS.iconst X0.here hx rfl (hb hby d17_76) kk) ?_
            show Go _ _ _ _ _ _ _ T0 (mkF m 77 #[_, _] [(.int (1 : Int32)), (.int ((((x ^^^ (-1 : Int32)) &&& (x - (1 : Int32))).toUInt32 >>> ((8 : Int32) &&& 31).toUInt32).toInt32)), (.int (9 : Int32))])
            refine Go.step (fun tt kk => XS.iushr X0.here hx rfl (hb hby d17_77) rfl kk) ?_
            show Go _ _ _ _ _ _ _ T0 (mkF m 78 #[_, _] [(.int ((((((x ^^^ (-1 : Int32)) &&& (x - (1 : Int32))).toUInt32 >>> ((8 : Int32) &&& 31).toUInt32).toInt32).toUInt32 >>> ((1 : Int32) &&& 31).toUInt32).toInt32)), (.int (9 : Int32))])
            refine Go.step (fun tt kk => XS.iadd X0.here hx rfl (hb hby d17_78) rfl kk) ?_
            show Go _ _ _ _ _ _ _ T0 (mkF m 79 #[_, _] [(.int ((9 : Int32) + ((((((x ^^^ (-1 : Int32)) &&& (x - (1 : Int32))).toUInt32 >>> ((8 : Int32) &&& 31).toUInt32).toInt32).toUInt32 >>> ((1 : Int32) &&& 31).toUInt32).toInt32)))])
            refine go_retI X0 hx hret hlk (hb hby d17_79) ?_ (by decide) (by decide)
            try rw [e0]
            exact ⟨congrArg (fun z => some (Value.int z)) (by simp only [ntzI, n1, n2, n3, n4, i1, i2, i3, i4, us, z0, eq_true c9_1, eq_false c23_2, eq_true c38_10, eq_false c52_11, eq_false c64_13, if_true, if_false, Int32.reduceAdd]), rfl, rfl⟩
      · refine Go.step (fun tt kk => XS.icmpYes X0.here hx rfl (pc0 := 38) (pc' := 49) rfl (hb hby d17_38) rfl (flt c38_10).2.2.2 (by decide) (by decide) kk) ?_
        show Go _ _ _ _ _ _ _ T0 (mkF m 49 #[_, _] [])
        refine Go.step (fun tt kk => XS.iloadN X0.here hx rfl (hb hby d17_49) rfl kk) ?_
        show Go _ _ _ _ _ _ _ T0 (mkF m 50 #[_, _] [(.int ((x ^^^ (-1 : Int32)) &&& (x - (1 : Int32))))])
        refine Go.step (fun tt kk => XS.bipush X0.here hx rfl (hb hby d17_50) kk) ?_
        show Go _ _ _ _ _ _ _ T0 (mkF m 52 #[_, _] [(.int (16 : Int32)), (.int ((x ^^^ (-1 : Int32)) &&& (x - (1 : Int32))))])
        by_cases c52_14 : (16 : Int32) < ((x ^^^ (-1 : Int32)) &&& (x - (1 : Int32)))
        · refine Go.step (fun tt kk => XS.icmpNo X0.here hx rfl (hb hby d17_52) rfl (tlt c52_14).2.2.2 kk) ?_
          show Go _ _ _ _ _ _ _ T0 (mkF m 55 #[_, _] [])
          refine Go.step (fun tt kk => XS.iinc X0.here hx rfl (hb hby d17_55) rfl (l' := #[.val (.int ((x ^^^ (-1 : Int32)) &&& (x - (1 : Int32)))), .val (.int (5 : Int32))]) rfl kk) ?_
          show Go _ _ _ _ _ _ _ T0 (mkF m 58 #[_, _] [])
          refine Go.step (fun tt kk => XS.iloadN X0.here hx rfl (hb hby d17_58) rfl kk) ?_
          show Go _ _ _ _ _ _ _ T0 (mkF m 59 #[_, _] [(.int ((x ^^^ (-1 : Int32)) &&& (x - (1 : Int32))))])
          refine Go.step (fun tt kk => XS.iconst X0.here hx rfl (hb hby d17_59) kk) ?_
          show Go _ _ _ _ _ _ _ T0 (mkF m 60 #[_, _] [(.int (4 : Int32)), (.int ((x ^^^ (-1 : Int32)) &&& (x - (1 : Int32))))])
          refine Go.step (fun tt kk => XS.iushr X0.here hx rfl (hb hby d17_60) rfl kk) ?_
          show Go _ _ _ _ _ _ _ T0 (mkF m 61 #[_, _] [(.int ((((x ^^^ (-1 : Int32)) &&& (x - (1 : Int32))).toUInt32 >>> ((4 : Int32) &&& 31).toUInt32).toInt32))])
          refine Go.step (fun tt kk => XS.istoreN X0.here hx rfl (hb hby d17_61) rfl (l' := #[.val (.int ((((x ^^^ (-1 : Int32)) &&& (x - (1 : Int32))).toUInt32 >>> ((4 : Int32) &&& 31).toUInt32).toInt32)), .val (.int (5 : Int32))]) rfl kk) ?_
          show Go _ _ _ _ _ _ _ T0 (mkF m 62 #[_, _] [])
          refine Go.step (fun tt kk => XS.iloadN X0.here hx rfl (hb hby d17_62) rfl kk) ?_
          show Go _ _ _ _ _ _ _ T0 (mkF m 63 #[_, _] [(.int ((((x ^^^ (-1 : Int32)) &&& (x - (1 : Int32))).toUInt32 >>> ((4 : Int32) &&& 31).toUInt32).toInt32))])
          refine Go.step (fun tt kk => XS.iconst X0.here hx rfl (hb hby d17_63) kk) ?_
          show Go _ _ _ _ _ _ _ T0 (mkF m 64 #[_, _] [(.int (4 : Int32)), (.int ((((x ^^^ (-1 : Int32)) &&& (x - (1 : Int32))).toUInt32 >>> ((4 : Int32) &&& 31).toUInt32).toInt32))])
          by_cases c64_15 : (4 : Int32) < ((((x ^^^ (-1 : Int32)) &&& (x - (1 : Int32))).toUInt32 >>> ((4 : Int32) &&& 31).toUInt32).toInt32)
          · refine Go.step (fun tt kk => XS.icmpNo X0.here hx rfl (hb hby d17_64) rfl (tlt c64_15).2.2.2 kk) ?_
            show Go _ _ _ _ _ _ _ T0 (mkF m 67 #[_, _] [])
            refine Go.step (fun tt kk => XS.iinc X0.here hx rfl (hb hby d17_67) rfl (l' := #[.val (.int ((((x ^^^ (-1 : Int32)) &&& (x - (1 : Int32))).toUInt32 >>> ((4 : Int32) &&& 31).toUInt32).toInt32)), .val (.int (7 : Int32))]) rfl kk) ?_
            show Go _ _ _ _ _ _ _ T0 (mkF m 70 #[_, _] [])
            refine Go.step (fun tt kk => XS.iloadN X0.here hx rfl (hb hby d17_70) rfl kk) ?_
            show Go _ _ _ _ _ _ _ T0 (mkF m 71 #[_, _] [(.int ((((x ^^^ (-1 : Int32)) &&& (x - (1 : Int32))).toUInt32 >>> ((4 : Int32) &&& 31).toUInt32).toInt32))])
            refine Go.step (fun tt kk => XS.iconst X0.here hx rfl (hb hby d17_71) kk) ?_
            show Go _ _ _ _ _ _ _ T0 (mkF m 72 #[_, _] [(.int (2 : Int32)), (.int ((((x ^^^ (-1 : Int32)) &&& (x - (1 : Int32))).toUInt32 >>> ((4 : Int32) &&& 31).toUInt32).toInt32))])
            refine Go.step (fun tt kk => XS.iushr X0.here hx rfl (hb hby d17_72) rfl kk) ?_
            show Go _ _ _ _ _ _ _ T0 (mkF m 73 #[_, _] [(.int ((((((x ^^^ (-1 : Int32)) &&& (x - (1 : Int32))).toUInt32 >>> ((4 : Int32) &&& 31).toUInt32).toInt32).toUInt32 >>> ((2 : Int32) &&& 31).toUInt32).toInt32))])
            refine Go.step (fun tt kk => XS.istoreN X0.here hx rfl (hb hby d17_73) rfl (l' := #[.val (.int ((((((x ^^^ (-1 : Int32)) &&& (x - (1 : Int32))).toUInt32 >>> ((4 : Int32) &&& 31).toUInt32).toInt32).toUInt32 >>> ((2 : Int32) &&& 31).toUInt32).toInt32)), .val (.int (7 : Int32))]) rfl kk) ?_
            show Go _ _ _ _ _ _ _ T0 (mkF m 74 #[_, _] [])
            refine Go.step (fun tt kk => XS.iloadN X0.here hx rfl (hb hby d17_74) rfl kk) ?_
            show Go _ _ _ _ _ _ _ T0 (mkF m 75 #[_, _] [(.int (7 : Int32))])
            refine Go.step (fun tt kk => XS.iloadN X0.here hx rfl (hb hby d17_75) rfl kk) ?_
            show Go _ _ _ _ _ _ _ T0 (mkF m 76 #[_, _] [(.int ((((((x ^^^ (-1 : Int32)) &&& (x - (1 : Int32))).toUInt32 >>> ((4 : Int32) &&& 31).toUInt32).toInt32).toUInt32 >>> ((2 : Int32) &&& 31).toUInt32).toInt32)), (.int (7 : Int32))])
            refine Go.step (fun tt kk => XS.iconst X0.here hx rfl (hb hby d17_76) kk) ?_
            show Go _ _ _ _ _ _ _ T0 (mkF m 77 #[_, _] [(.int (1 : Int32)), (.int ((((((x ^^^ (-1 : Int32)) &&& (x - (1 : Int32))).toUInt32 >>> ((4 : Int32) &&& 31).toUInt32).toInt32).toUInt32 >>> ((2 : Int32) &&& 31).toUInt32).toInt32)), (.int (7 : Int32))])
            refine Go.step (fun tt kk => XS.iushr X0.here hx rfl (hb hby d17_77) rfl kk) ?_
            show Go _ _ _ _ _ _ _ T0 (mkF m 78 #[_, _] [(.int ((((((((x ^^^ (-1 : Int32)) &&& (x - (1 : Int32))).toUInt32 >>> ((4 : Int32) &&& 31).toUInt32).toInt32).toUInt32 >>> ((2 : Int32) &&& 31).toUInt32).toInt32).toUInt32 >>> ((1 : Int32) &&& 31).toUInt32).toInt32)), (.int (7 : Int32))])
            refine Go.step (fun tt kk => XS.iadd X0.here hx rfl (hb hby d17_78) rfl kk) ?_
            show Go _ _ _ _ _ _ _ T0 (mkF m 79 #[_, _] [(.int ((7 : Int32) + ((((((((x ^^^ (-1 : Int32)) &&& (x - (1 : Int32))).toUInt32 >>> ((4 : Int32) &&& 31).toUInt32).toInt32).toUInt32 >>> ((2 : Int32) &&& 31).toUInt32).toInt32).toUInt32 >>> ((1 : Int32) &&& 31).toUInt32).toInt32)))])
            refine go_retI X0 hx hret hlk (hb hby d17_79) ?_ (by decide) (by decide)
            try rw [e0]
            exact ⟨congrArg (fun z => some (Value.int z)) (by simp only [ntzI, n1, n2, n3, n4, i1, i2, i3, i4, us, z0, eq_true c9_1, eq_false c23_2, eq_false c38_10, eq_true c52_14, eq_true c64_15, if_true, if_false, Int32.reduceAdd]), rfl, rfl⟩
          · refine Go.step (fun tt kk => XS.icmpYes X0.here hx rfl (pc0 := 64) (pc' := 74) rfl (hb hby d17_64) rfl (flt c64_15).2.2.2 (by decide) (by decide) kk) ?_
            show Go _ _ _ _ _ _ _ T0 (mkF m 74 #[_, _] [])
            refine Go.step (fun tt kk => XS.iloadN X0.here hx rfl (hb hby d17_74) rfl kk) ?_
            show Go _ _ _ _ _ _ _ T0 (mkF m 75 #[_, _] [(.int (5 : Int32))])
            refine Go.step (fun tt kk => XS.iloadN X0.here hx rfl (hb hby d17_75) rfl kk) ?_
            show Go _ _ _ _ _ _ _ T0 (mkF m 76 #[_, _] [(.int ((((x ^^^ (-1 : Int32)) &&& (x - (1 : Int32))).toUInt32 >>> ((4 : Int32) &&& 31).toUInt32).toInt32)), (.int (5 : Int32))])
            refine Go.step (fun tt kk => XS.iconst X0.here hx rfl (hb hby d17_76) kk) ?_
            show Go _ _ _ _ _ _ _ T0 (mkF m 77 #[_, _] [(.int (1 : Int32)), (.int ((((x ^^^ (-1 : Int32)) &&& (x - (1 : Int32))).toUInt32 >>> ((4 : Int32) &&& 31).toUInt32).toInt32)), (.int (5 : Int32))])
            refine Go.step (fun tt kk => XS.iushr X0.here hx rfl (hb hby d17_77) rfl kk) ?_
            show Go _ _ _ _ _ _ _ T0 (mkF m 78 #[_, _] [(.int ((((((x ^^^ (-1 : Int32)) &&& (x - (1 : Int32))).toUInt32 >>> ((4 : Int32) &&& 31).toUInt32).toInt32).toUInt32 >>> ((1 : Int32) &&& 31).toUInt32).toInt32)), (.int (5 : Int32))])
            refine Go.step (fun tt kk => XS.iadd X0.here hx rfl (hb hby d17_78) rfl kk) ?_
            show Go _ _ _ _ _ _ _ T0 (mkF m 79 #[_, _] [(.int ((5 : Int32) + ((((((x ^^^ (-1 : Int32)) &&& (x - (1 : Int32))).toUInt32 >>> ((4 : Int32) &&& 31).toUInt32).toInt32).toUInt32 >>> ((1 : Int32) &&& 31).toUInt32).toInt32)))])
            refine go_retI X0 hx hret hlk (hb hby d17_79) ?_ (by decide) (by decide)
            try rw [e0]
            exact ⟨congrArg (fun z => some (Value.int z)) (by simp only [ntzI, n1, n2, n3, n4, i1, i2, i3, i4, us, z0, eq_true c9_1, eq_false c23_2, eq_false c38_10, eq_true c52_14, eq_false c64_15, if_true, if_false, Int32.reduceAdd]), rfl, rfl⟩
        · refine Go.step (fun tt kk => XS.icmpYes X0.here hx rfl (pc0 := 52) (pc' := 62) rfl (hb hby d17_52) rfl (flt c52_14).2.2.2 (by decide) (by decide) kk) ?_
          show Go _ _ _ _ _ _ _ T0 (mkF m 62 #[_, _] [])
          refine Go.step (fun tt kk => XS.iloadN X0.here hx rfl (hb hby d17_62) rfl kk) ?_
          show Go _ _ _ _ _ _ _ T0 (mkF m 63 #[_, _] [(.int ((x ^^^ (-1 : Int32)) &&& (x - (1 : Int32))))])
          refine Go.step (fun tt kk => XS.iconst X0.here hx rfl (hb hby d17_63) kk) ?_
          show Go _ _ _ _ _ _ _ T0 (mkF m 64 #[_, _] [(.int (4 : Int32)), (.int ((x ^^^ (-1 : Int32)) &&& (x - (1 : Int32))))])
          by_cases c64_16 : (4 : Int32) < ((x ^^^ (-1 : Int32)) &&& (x - (1 : Int32)))
          · refine Go.step (fun tt kk => XS.icmpNo X0.here hx rfl (hb hby d17_64) rfl (tlt c64_16).2.2.2 kk) ?_
            show Go _ _ _ _ _ _ _ T0 (mkF m 67 #[_, _] [])
            refine Go.step (fun tt kk => XS.iinc X0.here hx rfl (hb hby d17_67) rfl (l' := #[.val (.int ((x ^^^ (-1 : Int32)) &&& (x - (1 : Int32)))), .val (.int (3 : Int32))]) rfl kk) ?_
            show Go _ _ _ _ _ _ _ T0 (mkF m 70 #[_, _] [])
            refine Go.step (fun tt kk => XS.iloadN X0.here hx rfl (hb hby d17_70) rfl kk) ?_
            show Go _ _ _ _ _ _ _ T0 (mkF m 71 #[_, _] [(.int ((x ^^^ (-1 : Int32)) &&& (x - (1 : Int32))))])
            refine Go.step (fun tt kk => XS.iconst X0.here hx rfl (hb hby d17_71) kk) ?_
            show Go _ _ _ _ _ _ _ T0 (mkF m 72 #[_, _] [(.int (2 : Int32)), (.int ((x ^^^ (-1 : Int32)) &&& (x - (1 : Int32))))])
            refine Go.step (fun tt kk => XS.iushr X0.here hx rfl (hb hby d17_72) rfl kk) ?_
            show Go _ _ _ _ _ _ _ T0 (mkF m 73 #[_, _] [(.int ((((x ^^^ (-1 : Int32)) &&& (x - (1 : Int32))).toUInt32 >>> ((2 : Int32) &&& 31).toUInt32).toInt32))])
            refine Go.step (fun tt kk => XS.istoreN X0.here hx rfl (hb hby d17_73) rfl (l' := #[.val (.int ((((x ^^^ (-1 : Int32)) &&& (x - (1 : Int32))).toUInt32 >>> ((2 : Int32) &&& 31).toUInt32).toInt32)), .val (.int (3 : Int32))]) rfl kk) ?_
            show Go _ _ _ _ _ _ _ T0 (mkF m 74 #[_, _] [])
            refine Go.step (fun tt kk => XS.iloadN X0.here hx rfl (hb hby d17_74) rfl kk) ?_
            show Go _ _ _ _ _ _ _ T0 (mkF m 75 #[_, _] [(.int (3 : Int32))])
            refine Go.step (fun tt kk => XS.iloadN X0.here hx rfl (hb hby d17_75) rfl kk) ?_
            show Go _ _ _ _ _ _ _ T0 (mkF m 76 #[_, _] [(.int ((((x ^^^ (-1 : Int32)) &&& (x - (1 : Int32))).toUInt32 >>> ((2 : Int32) &&& 31).toUInt32).toInt32)), (.int (3 : Int32))])
            refine Go.step (fun tt kk => XS.iconst X0.here hx rfl (hb hby d17_76) kk) ?_
            show Go _ _ _ _ _ _ _ T0 (mkF m 77 #[_, _] [(.int (1 : Int32)), (.int ((((x ^^^ (-1 : Int32)) &&& (x - (1 : Int32))).toUInt32 >>> ((2 : Int32) &&& 31).toUInt32).toInt32)), (.int (3 : Int32))])
            refine Go.step (fun tt kk => XS.iushr X0.here hx rfl (hb hby d17_77) rfl kk) ?_
            show Go _ _ _ _ _ _ _ T0 (mkF m 78 #[_, _] [(.int ((((((x ^^^ (-1 : Int32)) &&& (x - (1 : Int32))).toUInt32 >>> ((2 : Int32) &&& 31).toUInt32).toInt32).toUInt32 >>> ((1 : Int32) &&& 31).toUInt32).toInt32)), (.int (3 : Int32))])
            refine Go.step (fun tt kk => XS.iadd X0.here hx rfl (hb hby d17_78) rfl kk) ?_
            show Go _ _ _ _ _ _ _ T0 (mkF m 79 #[_, _] [(.int ((3 : Int32) + ((((((x ^^^ (-1 : Int32)) &&& (x - (1 : Int32))).toUInt32 >>> ((2 : Int32) &&& 31).toUInt32).toInt32).toUInt32 >>> ((1 : Int32) &&& 31).toUInt32).toInt32)))])
            refine go_retI X0 hx hret hlk (hb hby d17_79) ?_ (by decide) (by decide)
            try rw [e0]
            exact ⟨congrArg (fun z => some (Value.int z)) (by simp only [ntzI, n1, n2, n3, n4, i1, i2, i3, i4, us, z0, eq_true c9_1, eq_false c23_2, eq_false c38_10, eq_false c52_14, eq_true c64_16, if_true, if_false, Int32.reduceAdd]), rfl, rfl⟩
          · refine Go.step (fun tt kk => XS.icmpYes X0.here hx rfl (pc0 := 64) (pc' := 74) rfl (hb hby d17_64) rfl (flt c64_16).2.2.2 (by decide) (by decide) kk) ?_
            show Go _ _ _ _ _ _ _ T0 (mkF m 74 #[_, _] [])
            refine Go.step (fun tt kk => XS.iloadN X0.here hx rfl (hb hby d17_74) rfl kk) ?_
            show Go _ _ _ _ _ _ _ T0 (mkF m 75 #[_, _] [(.int (1 : Int32))])
            refine Go.step (fun tt kk => XS.iloadN X0.here hx rfl (hb hby d17_75) rfl kk) ?_
            show Go _ _ _ _ _ _ _ T0 (mkF m 76 #[_, _] [(.int ((x ^^^ (-1 : Int32)) &&& (x - (1 : Int32)))), (.int (1 : Int32))])
            refine Go.step (fun tt kk => XS.iconst X0.here hx rfl (hb hby d17_76) kk) ?_
            show Go _ _ _ _ _ _ _ T0 (mkF m 77 #[_, _] [(.int (1 : Int32)), (.int ((x ^^^ (-1 : Int32)) &&& (x - (1 : Int32)))), (.int (1 : Int32))])
            refine Go.step (fun tt kk => XS.iushr X0.here hx rfl (hb hby d17_77) rfl kk) ?_
            show Go _ _ _ _ _ _ _ T0 (mkF m 78 #[_, _] [(.int ((((x ^^^ (-1 : Int32)) &&& (x - (1 : Int32))).toUInt32 >>> ((1 : Int32) &&& 31).toUInt32).toInt32)), (.int (1 : Int32))])
            refine Go.step (fun tt kk => XS.iadd X0.here hx rfl (hb hby d17_78) rfl kk) ?_
            show Go _ _ _ _ _ _ _ T0 (mkF m 79 #[_, _] [(.int ((1 : Int32) + ((((x ^^^ (-1 : Int32)) &&& (x - (1 : Int32))).toUInt32 >>> ((1 : Int32) &&& 31).toUInt32).toInt32)))])
            refine go_retI X0 hx hret hlk (hb hby d17_79) ?_ (by decide) (by decide)
            try rw [e0]
            exact ⟨congrArg (fun z => some (Value.int z)) (by simp only [ntzI, n1, n2, n3, n4, i1, i2, i3, i4, us, z0, eq_true c9_1, eq_false c23_2, eq_false c38_10, eq_false c52_14, eq_false c64_16, if_true, if_false, Int32.reduceAdd]), rfl, rfl⟩
  · refine Go.step (fun tt kk => XS.ifNo X0.here hx rfl (hb hby d17_9) rfl ((if0 _ _).trans (flt c9_1).2.2.1) kk) ?_
    show Go _ _ _ _ _ _ _ T0 (mkF m 12 #[_, _] [])
    refine Go.step (fun tt kk => XS.iloadN X0.here hx rfl (hb hby d17_12) rfl kk) ?_
    show Go _ _ _ _ _ _ _ T0 (mkF m 13 #[_, _] [(.int ((x ^^^ (-1 : Int32)) &&& (x - (1 : Int32))))])
    refine Go.step (fun tt kk => XS.bipush X0.here hx rfl (hb hby d17_13) kk) ?_
    show Go _ _ _ _ _ _ _ T0 (mkF m 15 #[_, _] [(.int (32 : Int32)), (.int ((x ^^^ (-1 : Int32)) &&& (x - (1 : Int32))))])
    refine Go.step (fun tt kk => XS.iand X0.here hx rfl (hb hby d17_15) rfl kk) ?_
    show Go _ _ _ _ _ _ _ T0 (mkF m 16 #[_, _] [(.int (((x ^^^ (-1 : Int32)) &&& (x - (1 : Int32))) &&& (32 : Int32)))])
    refine go_retI X0 hx hret hlk (hb hby d17_16) ?_ (by decide) (by decide)
    try rw [e0]
    exact ⟨congrArg (fun z => some (Value.int z)) (by simp only [ntzI, n1, n2, n3, n4, i1, i2, i3, i4, us, z0, eq_false c9_1, if_true, if_false, Int32.reduceAdd]), rfl, rfl⟩
theorem ef_rmtl (m : MethodId) (x0 : Int64) : entryFrame m #[(.long x0)] 3 = mkF m 0 #[.val (.long x0), .second, .unset] [] := by first | (simp [entryFrame, mkF, argsToLocals, Value.category]; done) | rfl
theorem pn_2 : plainName "java/lang/Long" = true := by first | (simp [plainName, overriddenIn]; done) | decide +kernel
theorem d16_0 : decode jdk_35_method_49_code 0 = .ok (.lload_n 0, 1) := by decide +kernel
theorem d16_1 : decode jdk_35_method_49_code 1 = .ok (.l2i, 1) := by decide +kernel
theorem d16_2 : decode jdk_35_method_49_code 2 = .ok (.istore_n 2, 1) := by decide +kernel
theorem d16_3 : decode jdk_35_method_49_code 3 = .ok (.iload_n 2, 1) := by decide +kernel
theorem d16_4 : decode jdk_35_method_49_code 4 = .ok (.ifCond .ne 17, 3) := by decide +kernel
theorem d16_7 : decode jdk_35_method_49_code 7 = .ok (.bipush 32, 2) := by decide +kernel
theorem d16_9 : decode jdk_35_method_49_code 9 = .ok (.lload_n 0, 1) := by decide +kernel
theorem d16_10 : decode jdk_35_method_49_code 10 = .ok (.bipush 32, 2) := by decide +kernel
theorem d16_12 : decode jdk_35_method_49_code 12 = .ok (.lushr, 1) := by decide +kernel
theorem d16_13 : decode jdk_35_method_49_code 13 = .ok (.l2i, 1) := by decide +kernel
theorem d16_14 : decode jdk_35_method_49_code 14 = .ok (.invokestatic 311, 3) := by decide +kernel
theorem d16_17 : decode jdk_35_method_49_code 17 = .ok (.iadd, 1) := by decide +kernel
theorem d16_18 : decode jdk_35_method_49_code 18 = .ok (.goto 7, 3) := by decide +kernel
theorem d16_25 : decode jdk_35_method_49_code 25 = .ok (.ireturn, 1) := by decide +kernel
theorem d16_21 : decode jdk_35_method_49_code 21 = .ok (.iload_n 2, 1) := by decide +kernel
theorem d16_22 : decode jdk_35_method_49_code 22 = .ok (.invokestatic 311, 3) := by decide +kernel
set_option maxRecDepth 65536 in
set_option maxHeartbeats 40000000 in
theorem rmtl (l : Launch) (Z : State) (a0 : Array Value) (hw : ∀ d ∈ tables_1, d.before a0 Z = true) (ws : List Jvm.Cond) (x : Int64) (h0 : Heap) (n0 : Nat) (Z0 : n0 ≤ h0.size)  :
    Ctr l Z (⟨"java/lang/Long", "numberOfTrailingZeros", "(J)I"⟩ : MethodName) jdk_35_method_49_code 3 (some .int) ws ({ frames := 1, cells := 0, slots := 0, locals := 14 } : Room) 0 0 #[(.long x)] h0 (fun v h L => v = some (.int (ntz x)) ∧ L = [] ∧ h = h0) := by
  refine Ctr.mk (plainFor_of_name pn_2) fun p e s m below meth c T0 X0 C e0 => go_cast (ef_rmtl m x) ?_
  have N0 := Fr.nil n0
  obtain ⟨hx, hZ, hby, hml, hown, hnm, hret, hlk⟩ := C
  show Go _ _ _ _ _ _ _ T0 (mkF m 0 #[.val (.long x), .second, .unset] [])
  refine Go.step (fun tt kk => XS.lloadN X0.here hx rfl (hb hby d16_0) rfl kk) ?_
  show Go _ _ _ _ _ _ _ T0 (mkF m 1 #[_, _, _] [(.long x)])
  refine Go.step (fun tt kk => XS.l2i X0.here hx rfl (hb hby d16_1) rfl kk) ?_
  show Go _ _ _ _ _ _ _ T0 (mkF m 2 #[_, _, _] [(.int (x.toInt32))])
  refine Go.step (fun tt kk => XS.istoreN X0.here hx rfl (hb hby d16_2) rfl (l' := #[.val (.long x), .second, .val (.int (x.toInt32))]) rfl kk) ?_
  show Go _ _ _ _ _ _ _ T0 (mkF m 3 #[_, _, _] [])
  refine Go.step (fun tt kk => XS.iloadN X0.here hx rfl (hb hby d16_3) rfl kk) ?_
  show Go _ _ _ _ _ _ _ T0 (mkF m 4 #[_, _, _] [(.int (x.toInt32))])
  by_cases c4_1 : (x.toInt32) = (0 : Int32)
  · refine Go.step (fun tt kk => XS.ifNo X0.here hx rfl (hb hby d16_4) rfl ((if0 _ _).trans (teq c4_1).2) kk) ?_
    show Go _ _ _ _ _ _ _ T0 (mkF m 7 #[_, _, _] [])
    refine Go.step (fun tt kk => XS.bipush X0.here hx rfl (hb hby d16_7) kk) ?_
    show Go _ _ _ _ _ _ _ T0 (mkF m 9 #[_, _, _] [(.int (32 : Int32))])
    refine Go.step (fun tt kk => XS.lloadN X0.here hx rfl (hb hby d16_9) rfl kk) ?_
    show Go _ _ _ _ _ _ _ T0 (mkF m 10 #[_, _, _] [(.long x), (.int (32 : Int32))])
    refine Go.step (fun tt kk => XS.bipush X0.here hx rfl (hb hby d16_10) kk) ?_
    show Go _ _ _ _ _ _ _ T0 (mkF m 12 #[_, _, _] [(.int (32 : Int32)), (.long x), (.int (32 : Int32))])
    refine Go.step (fun tt kk => XS.lushr X0.here hx rfl (hb hby d16_12) rfl kk) ?_
    show Go _ _ _ _ _ _ _ T0 (mkF m 13 #[_, _, _] [(.long ((x.toUInt64 >>> ((32 : Int32) &&& 0x3f).toInt64.toUInt64).toInt64)), (.int (32 : Int32))])
    refine Go.step (fun tt kk => XS.l2i X0.here hx rfl (hb hby d16_13) rfl kk) ?_
    show Go _ _ _ _ _ _ _ T0 (mkF m 14 #[_, _, _] [(.int (((x.toUInt64 >>> ((32 : Int32) &&& 0x3f).toInt64.toUInt64).toInt64).toInt32)), (.int (32 : Int32))])
    obtain ⟨v2, T2, L2, X2, q2, st2⟩ := c_static X0 hx hZ hown (y := (⟨"java/lang/Integer", "numberOfTrailingZeros", "(I)I"⟩ : MethodName)) (hw _ (List.mem_of_getElem? (i := 124) rfl)) (hw _ (List.mem_of_getElem? (i := 125) rfl)) (hw _ (List.mem_of_getElem? (i := 126) rfl)) (hw _ (List.mem_of_getElem? (i := 127) rfl)) (by decide) (argsL := [(.int (((x.toUInt64 >>> ((32 : Int32) &&& 0x3f).toInt64.toUInt64).toInt64).toInt32))]) (rest := [(.int (32 : Int32))]) (rmti l Z a0 hw [] (((x.toUInt64 >>> ((32 : Int32) &&& 0x3f).toInt64.toUInt64).toInt64).toInt32) h0 n0 Z0) e0 pd_1 rfl (by rw [hml]; rfl) (W := 1) (by show 2 * 0 + _ ≤ _; exact Nat.le_of_eq rfl) (by decide) (by decide) (by decide) (by decide) (hb hby d16_14) (Ls := #[.val (.long x), .second, .val (.int (x.toInt32))])
    obtain ⟨rfl, rfl, e2⟩ := q2
    have N2 := Fr.app N0 (Fr.nil n0)
    refine Go.step (st2) ?_
    show Go _ _ _ _ _ _ _ T2 (mkF m 17 #[_, _, _] [(.int (ntzI (((x.toUInt64 >>> ((32 : Int32) &&& 0x3f).toInt64.toUInt64).toInt64).toInt32))), (.int (32 : Int32))])
    refine Go.step (fun tt kk => XS.iadd X2.here hx rfl (hb hby d16_17) rfl kk) ?_
    show Go _ _ _ _ _ _ _ T2 (mkF m 18 #[_, _, _] [(.int ((32 : Int32) + (ntzI (((x.toUInt64 >>> ((32 : Int32) &&& 0x3f).toInt64.toUInt64).toInt64).toInt32))))])
    refine Go.step (fun tt kk => XS.goto X2.here hx rfl (pc0 := 18) (pc' := 25) rfl (hb hby d16_18) (by decide) (by decide) kk) ?_
    show Go _ _ _ _ _ _ _ T2 (mkF m 25 #[_, _, _] [(.int ((32 : Int32) + (ntzI (((x.toUInt64 >>> ((32 : Int32) &&& 0x3f).toInt64.toUInt64).toInt64).toInt32))))])
    refine go_retI X2 hx hret hlk (hb hby d16_25) ?_ (by decide) (by decide)
    try rw [e2]
    exact ⟨congrArg (fun z => some (Value.int z)) (by unfold ntz; rw [if_pos c4_1]), rfl, rfl⟩
  · refine Go.step (fun tt kk => XS.ifYes X0.here hx rfl (pc0 := 4) (pc' := 21) rfl (hb hby d16_4) rfl ((if0 _ _).trans (feq c4_1).2) (by decide) (by decide) kk) ?_
    show Go _ _ _ _ _ _ _ T0 (mkF m 21 #[_, _, _] [])
    refine Go.step (fun tt kk => XS.iloadN X0.here hx rfl (hb hby d16_21) rfl kk) ?_
    show Go _ _ _ _ _ _ _ T0 (mkF m 22 #[_, _, _] [(.int (x.toInt32))])
    obtain ⟨v3, T3, L3, X3, q3, st3⟩ := c_static X0 hx hZ hown (y := (⟨"java/lang/Integer", "numberOfTrailingZeros", "(I)I"⟩ : MethodName)) (hw _ (List.mem_of_getElem? (i := 124) rfl)) (hw _ (List.mem_of_getElem? (i := 125) rfl)) (hw _ (List.mem_of_getElem? (i := 126) rfl)) (hw _ (List.mem_of_getElem? (i := 127) rfl)) (by decide) (argsL := [(.int (x.toInt32))]) (rest := []) (rmti l Z a0 hw [] (x.toInt32) h0 n0 Z0) e0 pd_1 rfl (by rw [hml]; rfl) (W := 0) (by show 2 * 0 + _ ≤ _; exact Nat.le_of_eq rfl) (by decide) (by decide) (by decide) (by decide) (hb hby d16_22) (Ls := #[.val (.long x), .second, .val (.int (x.toInt32))])
    obtain ⟨rfl, rfl, e3⟩ := q3
    have N3 := Fr.app N0 (Fr.nil n0)
    refine Go.step (st3) ?_
    show Go _ _ _ _ _ _ _ T3 (mkF m 25 #[_, _, _] [(.int (ntzI (x.toInt32)))])
    refine go_retI X3 hx hret hlk (hb hby d16_25) ?_ (by decide) (by decide)
    try rw [e3]
    exact ⟨congrArg (fun z => some (Value.int z)) (by unfold ntz; rw [if_neg c4_1]), rfl, rfl⟩
abbrev orAt (F : Nat → Int64) (k : Nat) (v : Int64) : Nat → Int64 := fun i => if i = k then F k ||| v else F i
abbrev loAt (F : Nat → Int64) (k : Nat) : Nat → Int64 := fun i => if i = k then F k &&& (F k - (1 : Int64)) else F i
abbrev lv (F : Nat → Int64) : Nat → Value := fun i => .long (F i)
abbrev w0 : Nat → Int64 := fun _ => 0
abbrev wd1 (a : Nat) : Nat → Int64 := fun j => if j = a / 64 then sh (Int32.ofNat a) else 0
abbrev wd2 (a b : Nat) : Nat → Int64 := fun j => (if j = a / 64 then sh (Int32.ofNat a) else 0) ||| (if j = b / 64 then sh (Int32.ofNat b) else 0)
theorem own_sh6 (X : Nat) (h : X < 256) : us (Int32.ofNat X) (6 : Int32) = Int32.ofNat (X / 64) := by
  have key : ∀ n : Fin 256, us (Int32.ofNat n.1) (6 : Int32) = Int32.ofNat (n.1 / 64) := by decide +kernel
  exact key ⟨X, h⟩
theorem own_up (K u : Nat) (h : u + 1 ≤ K) : Int32.ofNat (K - (u + 1)) + (1 : Int32) = Int32.ofNat (K - u) := by
  rw [show K - u = K - (u + 1) + 1 by omega, Int32.ofNat_add]
  rfl
theorem own_or0 (x : Int64) : (0 : Int64) ||| x = x := Int64.zero_or
theorem own_or0' (x : Int64) : x ||| (0 : Int64) = x := Int64.or_zero
theorem own_shm (a : Nat) (h : a < 128) : sh (Int32.ofNat a) = sh (Int32.ofNat (a % 64)) := by
  have key : ∀ n : Fin 128, sh (Int32.ofNat n.1) = sh (Int32.ofNat (n.1 % 64)) := by decide +kernel
  exact key ⟨a, h⟩
theorem own_bits1 : ∀ a b : Fin 64, a.1 < b.1 → ntz (sh (Int32.ofNat a.1) ||| sh (Int32.ofNat b.1)) = Int32.ofNat a.1 ∧ ¬ (sh (Int32.ofNat a.1) ||| sh (Int32.ofNat b.1)) = 0 ∧
    ((sh (Int32.ofNat a.1) ||| sh (Int32.ofNat b.1)) &&& ((sh (Int32.ofNat a.1) ||| sh (Int32.ofNat b.1)) - 1)) = sh (Int32.ofNat b.1) := by decide +kernel
theorem own_one : ∀ a : Fin 64, ntz (sh (Int32.ofNat a.1)) = Int32.ofNat a.1 ∧ ¬ sh (Int32.ofNat a.1) = 0 ∧ (sh (Int32.ofNat a.1) &&& (sh (Int32.ofNat a.1) - 1)) = 0 := by decide +kernel
theorem own_tot (x : Nat) : (64 : Int32) * Int32.ofNat (x / 64) + Int32.ofNat (x % 64) = Int32.ofNat x := by
  show Int32.ofNat 64 * Int32.ofNat (x / 64) + Int32.ofNat (x % 64) = Int32.ofNat x
  rw [← Int32.ofNat_mul, ← Int32.ofNat_add, Nat.div_add_mod]
theorem w_or1 (A : Nat) : orAt w0 (A / 64) (sh (Int32.ofNat A)) = wd1 A := by
  funext i
  by_cases h : i = A / 64
  · simp only [orAt, wd1, w0, if_pos h, own_or0]
  · simp only [orAt, wd1, w0, if_neg h]
theorem w_or2' (A B : Nat) : orAt (wd1 A) (B / 64) (sh (Int32.ofNat B)) = wd2 A B := by
  funext i
  by_cases h : i = B / 64
  · subst h; simp only [orAt, wd1, wd2, if_true]
  · simp only [orAt, wd1, wd2, if_neg h, own_or0']
theorem w_comm (A B : Nat) : wd2 A B = wd2 B A := by funext i; exact Int64.or_comm _ _
theorem w_or2 (A B : Nat) : orAt (wd1 A) (B / 64) (sh (Int32.ofNat B)) = wd2 (min A B) (max A B) := by
  rw [w_or2']
  rcases Nat.lt_or_ge A B with q | q
  · rw [Nat.min_eq_left (by omega), Nat.max_eq_right (by omega)]
  · rw [Nat.min_eq_right (by omega), Nat.max_eq_left (by omega), w_comm]
theorem w_same (A : Nat) : wd2 A A = wd1 A := by
  funext i; exact Int64.or_self
theorem w_one (b : Nat) (h : b < 128) : (∀ j, j ≠ b / 64 → wd1 b j = 0) ∧ ¬ wd1 b (b / 64) = 0 ∧ (64 : Int32) * Int32.ofNat (b / 64) + ntz (wd1 b (b / 64)) = Int32.ofNat b ∧ loAt (wd1 b) (b / 64) = w0 := by
  have e : wd1 b (b / 64) = sh (Int32.ofNat (b % 64)) := (if_pos rfl).trans (own_shm b h)
  obtain ⟨t1, t2, t3⟩ := own_one ⟨b % 64, Nat.mod_lt _ (by decide)⟩
  refine ⟨fun j hj => if_neg hj, by rw [e]; exact t2, by rw [e, t1]; exact own_tot b, ?_⟩
  funext i
  show (if i = b / 64 then wd1 b (b / 64) &&& (wd1 b (b / 64) - 1) else wd1 b i) = 0
  by_cases q : i = b / 64
  · rw [if_pos q, e]; exact t3
  · rw [if_neg q]; exact if_neg q
theorem w_two (a b : Nat) (hab : a < b) (h : b < 128) : (∀ j, j < a / 64 → wd2 a b j = 0) ∧ ¬ wd2 a b (a / 64) = 0 ∧ (64 : Int32) * Int32.ofNat (a / 64) + ntz (wd2 a b (a / 64)) = Int32.ofNat a ∧ loAt (wd2 a b) (a / 64) = wd1 b := by
  refine ⟨fun j hj => ?_, ?_⟩
  · show (if j = a / 64 then _ else (0 : Int64)) ||| (if j = b / 64 then _ else (0 : Int64)) = 0
    rw [if_neg (by omega), if_neg (by omega)]; exact own_or0 0
  by_cases q : a / 64 = b / 64
  · have e : wd2 a b (a / 64) = sh (Int32.ofNat (a % 64)) ||| sh (Int32.ofNat (b % 64)) := by
      show (if a / 64 = a / 64 then _ else (0 : Int64)) ||| (if a / 64 = b / 64 then _ else (0 : Int64)) = _
      rw [if_pos rfl, if_pos q, own_shm a (by omega), own_shm b h]
    obtain ⟨t1, t2, t3⟩ := own_bits1 ⟨a % 64, Nat.mod_lt _ (by decide)⟩ ⟨b % 64, Nat.mod_lt _ (by decide)⟩ (by show a % 64 < b % 64; omega)
    refine ⟨by rw [e]; exact t2, by rw [e, t1]; exact own_tot a, ?_⟩
    funext i
    show (if i = a / 64 then wd2 a b (a / 64) &&& (wd2 a b (a / 64) - 1) else wd2 a b i) = wd1 b i
    by_cases q2 : i = a / 64
    · rw [if_pos q2, e, show wd1 b i = sh (Int32.ofNat (b % 64)) from (if_pos (q2.trans q)).trans (own_shm b h)]; exact t3
    · rw [if_neg q2]; show (if i = a / 64 then _ else (0 : Int64)) ||| (if i = b / 64 then _ else (0 : Int64)) = wd1 b i
      rw [if_neg q2, own_or0]
  · have e : wd2 a b (a / 64) = sh (Int32.ofNat (a % 64)) := by
      show (if a / 64 = a / 64 then _ else (0 : Int64)) ||| (if a / 64 = b / 64 then _ else (0 : Int64)) = _
      rw [if_pos rfl, if_neg q, own_or0', own_shm a (by omega)]
    obtain ⟨t1, t2, t3⟩ := own_one ⟨a % 64, Nat.mod_lt _ (by decide)⟩
    refine ⟨by rw [e]; exact t2, by rw [e, t1]; exact own_tot a, ?_⟩
    funext i
    show (if i = a / 64 then wd2 a b (a / 64) &&& (wd2 a b (a / 64) - 1) else wd2 a b i) = wd1 b i
    by_cases q2 : i = a / 64
    · rw [if_pos q2, e, show wd1 b i = 0 from if_neg (by omega)]; exact t3
    · rw [if_neg q2]; show (if i = a / 64 then _ else (0 : Int64)) ||| (if i = b / 64 then _ else (0 : Int64)) = wd1 b i
      rw [if_neg q2, own_or0]
theorem ef_rmDi (m : MethodId) (x0 : Addr) (x1 : Int32) (x2 : Int32) : entryFrame m #[(.ref x0), (.int x1), (.int x2)] 3 = mkF m 0 #[.val (.ref x0), .val (.int x1), .val (.int x2)] [] := by first | (simp [entryFrame, mkF, argsToLocals, Value.category]; done) | rfl
theorem pn_3 : plainName "com/example/gridwright/gridwright/engine/Draft" = true := by first | (simp [plainName, overriddenIn]; done) | decide +kernel
theorem d2_0 : decode prog_49_method_1_code 0 = .ok (.aload_n 0, 1) := by decide +kernel
theorem d2_1 : decode prog_49_method_1_code 1 = .ok (.invokespecial 1, 3) := by decide +kernel
theorem d2_4 : decode prog_49_method_1_code 4 = .ok (.aload_n 0, 1) := by decide +kernel
theorem d2_5 : decode prog_49_method_1_code 5 = .ok (.iload_n 1, 1) := by decide +kernel
theorem d2_6 : decode prog_49_method_1_code 6 = .ok (.putfield 7, 3) := by decide +kernel
theorem d2_9 : decode prog_49_method_1_code 9 = .ok (.aload_n 0, 1) := by decide +kernel
theorem d2_10 : decode prog_49_method_1_code 10 = .ok (.iload_n 2, 1) := by decide +kernel
theorem d2_11 : decode prog_49_method_1_code 11 = .ok (.putfield 13, 3) := by decide +kernel
theorem d2_14 : decode prog_49_method_1_code 14 = .ok (.return_, 1) := by decide +kernel
set_option maxRecDepth 65536 in
set_option maxHeartbeats 40000000 in
theorem rmDi (l : Launch) (Z : State) (a0 : Array Value) (hw : ∀ d ∈ tables_1, d.before a0 Z = true) (ws : List Jvm.Cond) (a : Addr) (x1 x2 : Int32) (h0 : Heap) (n0 : Nat) (Z0 : n0 ≤ h0.size) (E_a : Exa Z h0 a "com/example/gridwright/gridwright/engine/LargeDraft") (F_0 : Fld Z h0 a "com/example/gridwright/gridwright/engine/Draft" "width" "I" (.int (0 : Int32))) (F_1 : Fld Z h0 a "com/example/gridwright/gridwright/engine/Draft" "height" "I" (.int (0 : Int32))) (F_2 : Fld Z h0 a "com/example/gridwright/gridwright/engine/Draft" "taken" "J" (.long (0 : Int64))) (F_3 : Fld Z h0 a "com/example/gridwright/gridwright/engine/Draft" "decided" "I" (.int (0 : Int32))) (F_4 : Fld Z h0 a "com/example/gridwright/gridwright/engine/LargeDraft" "stride" "I" (.int (0 : Int32))) (F_5 : Fld Z h0 a "com/example/gridwright/gridwright/engine/LargeDraft" "filled" "[J" .null) (F_6 : Fld Z h0 a "com/example/gridwright/gridwright/engine/LargeDraft" "empty" "[J" .null) (F_7 : Fld Z h0 a "com/example/gridwright/gridwright/engine/LargeDraft" "changedRows" "[J" .null) (F_8 : Fld Z h0 a "com/example/gridwright/gridwright/engine/LargeDraft" "changedColumns" "[J" .null) (F_9 : Fld Z h0 a "com/example/gridwright/gridwright/engine/LargeDraft" "waitingRows" "[J" .null) (F_10 : Fld Z h0 a "com/example/gridwright/gridwright/engine/LargeDraft" "waitingColumns" "[J" .null) (F_11 : Fld Z h0 a "com/example/gridwright/gridwright/engine/LargeDraft" "grid" "Lcom/example/gridwright/gridwright/engine/Grid;" .null) (F_12 : Fld Z h0 a "com/example/gridwright/gridwright/engine/LargeDraft" "rows" "Z" (.int (0 : Int32))) (F_13 : Fld Z h0 a "com/example/gridwright/gridwright/engine/LargeDraft" "scan" "I" (.int (0 : Int32))) (g_a : n0 ≤ a) :
    Ctr l Z (⟨"com/example/gridwright/gridwright/engine/Draft", "<init>", "(II)V"⟩ : MethodName) prog_49_method_1_code 3 none ws ({ frames := 1, cells := 0, slots := 0, locals := 12 } : Room) 0 0 #[(.ref a), (.int x1), (.int x2)] h0 (fun v h L => v = none ∧ Fr n0 L ∧ Keep h0 h [a] ∧ Exa Z h a "com/example/gridwright/gridwright/engine/LargeDraft" ∧ Fld Z h a "com/example/gridwright/gridwright/engine/Draft" "width" "I" (.int x1) ∧ Fld Z h a "com/example/gridwright/gridwright/engine/Draft" "height" "I" (.int x2) ∧ Fld Z h a "com/example/gridwright/gridwright/engine/Draft" "taken" "J" (.long (0 : Int64)) ∧ Fld Z h a "com/example/gridwright/gridwright/engine/Draft" "decided" "I" (.int (0 : Int32)) ∧ Fld Z h a "com/example/gridwright/gridwright/engine/LargeDraft" "stride" "I" (.int (0 : Int32)) ∧ Fld Z h a "com/example/gridwright/gridwright/engine/LargeDraft" "filled" "[J" .null ∧ Fld Z h a "com/example/gridwright/gridwright/engine/LargeDraft" "empty" "[J" .null ∧ Fld Z h a "com/example/gridwright/gridwright/engine/LargeDraft" "changedRows" "[J" .null ∧ Fld Z h a "com/example/gridwright/gridwright/engine/LargeDraft" "changedColumns" "[J" .null ∧ Fld Z h a "com/example/gridwright/gridwright/engine/LargeDraft" "waitingRows" "[J" .null ∧ Fld Z h a "com/example/gridwright/gridwright/engine/LargeDraft" "waitingColumns" "[J" .null ∧ Fld Z h a "com/example/gridwright/gridwright/engine/LargeDraft" "grid" "Lcom/example/gridwright/gridwright/engine/Grid;" .null ∧ Fld Z h a "com/example/gridwright/gridwright/engine/LargeDraft" "rows" "Z" (.int (0 : Int32)) ∧ Fld Z h a "com/example/gridwright/gridwright/engine/LargeDraft" "scan" "I" (.int (0 : Int32))) := by
  refine Ctr.mk (plainFor_of_name pn_3) fun p e s m below meth c T0 X0 C e0 => go_cast (ef_rmDi m a x1 x2) ?_
  have N0 := Fr.nil n0
  obtain ⟨hx, hZ, hby, hml, hown, hnm, hret, hlk⟩ := C
  obtain ⟨hI, eI⟩ : ∃ z, z = h0 := ⟨_, rfl⟩
  have K0 : Keep hI h0 [a] := by rw [eI]; exact Keep.refl _ _
  show Go _ _ _ _ _ _ _ T0 (mkF m 0 #[.val (.ref a), .val (.int x1), .val (.int x2)] [])
  refine Go.step (fun tt kk => XS.aloadN X0.here hx rfl (hb hby d2_0) rfl rfl kk) ?_
  show Go _ _ _ _ _ _ _ T0 (mkF m 1 #[_, _, _] [(.ref a)])
  obtain ⟨T1, X1, e1, st1⟩ := initO X0 hx hZ hown (hw _ (List.mem_of_getElem? (i := 12) rfl)) (hw _ (List.mem_of_getElem? (i := 13) rfl)) (hw _ (List.mem_of_getElem? (i := 14) rfl)) e0 (g := (mkF m 1 #[.val (.ref a), .val (.int x1), .val (.int x2)] [(.ref a)])) rfl (by rw [hml]; rfl) rfl (hb hby d2_1) (by decide) (W := 0) (by show 2 * 0 + _ ≤ _; exact Nat.le_of_eq rfl) (by decide)
  refine Go.step (st1) ?_
  show Go _ _ _ _ _ _ _ T1 (mkF m 4 #[_, _, _] [])
  refine Go.step (fun tt kk => XS.aloadN X1.here hx rfl (hb hby d2_4) rfl rfl kk) ?_
  show Go _ _ _ _ _ _ _ T1 (mkF m 5 #[_, _, _] [(.ref a)])
  refine Go.step (fun tt kk => XS.iloadN X1.here hx rfl (hb hby d2_5) rfl kk) ?_
  show Go _ _ _ _ _ _ _ T1 (mkF m 6 #[_, _, _] [(.int x1), (.ref a)])
  obtain ⟨T2, h2, X2, e2, W2, st2⟩ := putF X1 hx hZ hown (host := "") (Or.inl (hw _ (List.mem_of_getElem? (i := 15) rfl))) Via.refl e1 F_0 E_a (Or.inr ⟨(hw _ (List.mem_of_getElem? (i := 16) rfl)), rfl, hnm⟩) (hw _ (List.mem_of_getElem? (i := 2) rfl)) (ty := .int) (by decide) rfl rfl (g := (mkF m 6 #[.val (.ref a), .val (.int x1), .val (.int x2)] [(.int x1), (.ref a)])) rfl rfl (hb hby d2_6)
  have F2 := Fld.same W2 F_0
  have N2 := Fr.snoc X2 N0 g_a
  have Z2 : n0 ≤ h2.size := Nat.le_trans Z0 (Keep.of_wr W2).1
  have K2 : Keep hI h2 [a] := K0.wr W2 (Or.inl (List.mem_of_getElem? (i := 0) rfl))
  refine Go.step (st2) ?_
  show Go _ _ _ _ _ _ _ T2 (mkF m 9 #[_, _, _] [])
  refine Go.step (fun tt kk => XS.aloadN X2.here hx rfl (hb hby d2_9) rfl rfl kk) ?_
  show Go _ _ _ _ _ _ _ T2 (mkF m 10 #[_, _, _] [(.ref a)])
  refine Go.step (fun tt kk => XS.iloadN X2.here hx rfl (hb hby d2_10) rfl kk) ?_
  show Go _ _ _ _ _ _ _ T2 (mkF m 11 #[_, _, _] [(.int x2), (.ref a)])
  have f4 := (Fld.other W2 F_1 (Or.inr (slot_ne (Or.inr (hw _ (List.mem_of_getElem? (i := 18) rfl))) (Or.inr (hw _ (List.mem_of_getElem? (i := 16) rfl))) (by decide) (t := .int) (t' := .int) (by decide) (by decide))))
  have f5 := (Exa.wr W2 E_a)
  obtain ⟨T3, h3, X3, e3, W3, st3⟩ := putF X2 hx hZ hown (host := "") (Or.inl (hw _ (List.mem_of_getElem? (i := 17) rfl))) Via.refl e2 f4 f5 (Or.inr ⟨(hw _ (List.mem_of_getElem? (i := 18) rfl)), rfl, hnm⟩) (hw _ (List.mem_of_getElem? (i := 2) rfl)) (ty := .int) (by decide) rfl rfl (g := (mkF m 11 #[.val (.ref a), .val (.int x1), .val (.int x2)] [(.int x2), (.ref a)])) rfl rfl (hb hby d2_11)
  have F3 := Fld.same W3 f4
  have N3 := Fr.snoc X3 N2 g_a
  have Z3 : n0 ≤ h3.size := Nat.le_trans Z2 (Keep.of_wr W3).1
  have K3 : Keep hI h3 [a] := K2.wr W3 (Or.inl (List.mem_of_getElem? (i := 0) rfl))
  refine Go.step (st3) ?_
  show Go _ _ _ _ _ _ _ T3 (mkF m 14 #[_, _, _] [])
  have f6 := (Exa.wr W3 f5)
  have f7 := (Fld.other W3 F2 (Or.inr (slot_ne (Or.inr (hw _ (List.mem_of_getElem? (i := 16) rfl))) (Or.inr (hw _ (List.mem_of_getElem? (i := 18) rfl))) (by decide) (t := .int) (t' := .int) (by decide) (by decide))))
  have f8 := (Fld.other W3 (Fld.other W2 F_2 (Or.inr (slot_ne (Or.inl (hw _ (List.mem_of_getElem? (i := 86) rfl))) (Or.inr (hw _ (List.mem_of_getElem? (i := 16) rfl))) (by decide) (t := .long) (t' := .int) (by decide) (by decide)))) (Or.inr (slot_ne (Or.inl (hw _ (List.mem_of_getElem? (i := 86) rfl))) (Or.inr (hw _ (List.mem_of_getElem? (i := 18) rfl))) (by decide) (t := .long) (t' := .int) (by decide) (by decide))))
  have f9 := (Fld.other W3 (Fld.other W2 F_3 (Or.inr (slot_ne (Or.inl (hw _ (List.mem_of_getElem? (i := 88) rfl))) (Or.inr (hw _ (List.mem_of_getElem? (i := 16) rfl))) (by decide) (t := .int) (t' := .int) (by decide) (by decide)))) (Or.inr (slot_ne (Or.inl (hw _ (List.mem_of_getElem? (i := 88) rfl))) (Or.inr (hw _ (List.mem_of_getElem? (i := 18) rfl))) (by decide) (t := .int) (t' := .int) (by decide) (by decide))))
  have f10 := (Fld.other W3 (Fld.other W2 F_4 (Or.inr (slot_ne (Or.inr (hw _ (List.mem_of_getElem? (i := 28) rfl))) (Or.inr (hw _ (List.mem_of_getElem? (i := 16) rfl))) (by decide) (t := .int) (t' := .int) (by decide) (by decide)))) (Or.inr (slot_ne (Or.inr (hw _ (List.mem_of_getElem? (i := 28) rfl))) (Or.inr (hw _ (List.mem_of_getElem? (i := 18) rfl))) (by decide) (t := .int) (t' := .int) (by decide) (by decide))))
  have f11 := (Fld.other W3 (Fld.other W2 F_5 (Or.inr (slot_ne (Or.inr (hw _ (List.mem_of_getElem? (i := 31) rfl))) (Or.inr (hw _ (List.mem_of_getElem? (i := 16) rfl))) (by decide) (t := (.array .long)) (t' := .int) (by decide) (by decide)))) (Or.inr (slot_ne (Or.inr (hw _ (List.mem_of_getElem? (i := 31) rfl))) (Or.inr (hw _ (List.mem_of_getElem? (i := 18) rfl))) (by decide) (t := (.array .long)) (t' := .int) (by decide) (by decide))))
  have f12 := (Fld.other W3 (Fld.other W2 F_6 (Or.inr (slot_ne (Or.inr (hw _ (List.mem_of_getElem? (i := 33) rfl))) (Or.inr (hw _ (List.mem_of_getElem? (i := 16) rfl))) (by decide) (t := (.array .long)) (t' := .int) (by decide) (by decide)))) (Or.inr (slot_ne (Or.inr (hw _ (List.mem_of_getElem? (i := 33) rfl))) (Or.inr (hw _ (List.mem_of_getElem? (i := 18) rfl))) (by decide) (t := (.array .long)) (t' := .int) (by decide) (by decide))))
  have f13 := (Fld.other W3 (Fld.other W2 F_7 (Or.inr (slot_ne (Or.inr (hw _ (List.mem_of_getElem? (i := 35) rfl))) (Or.inr (hw _ (List.mem_of_getElem? (i := 16) rfl))) (by decide) (t := (.array .long)) (t' := .int) (by decide) (by decide)))) (Or.inr (slot_ne (Or.inr (hw _ (List.mem_of_getElem? (i := 35) rfl))) (Or.inr (hw _ (List.mem_of_getElem? (i := 18) rfl))) (by decide) (t := (.array .long)) (t' := .int) (by decide) (by decide))))
  have f14 := (Fld.other W3 (Fld.other W2 F_8 (Or.inr (slot_ne (Or.inr (hw _ (List.mem_of_getElem? (i := 37) rfl))) (Or.inr (hw _ (List.mem_of_getElem? (i := 16) rfl))) (by decide) (t := (.array .long)) (t' := .int) (by decide) (by decide)))) (Or.inr (slot_ne (Or.inr (hw _ (List.mem_of_getElem? (i := 37) rfl))) (Or.inr (hw _ (List.mem_of_getElem? (i := 18) rfl))) (by decide) (t := (.array .long)) (t' := .int) (by decide) (by decide))))
  have f15 := (Fld.other W3 (Fld.other W2 F_9 (Or.inr (slot_ne (Or.inr (hw _ (List.mem_of_getElem? (i := 39) rfl))) (Or.inr (hw _ (List.mem_of_getElem? (i := 16) rfl))) (by decide) (t := (.array .long)) (t' := .int) (by decide) (by decide)))) (Or.inr (slot_ne (Or.inr (hw _ (List.mem_of_getElem? (i := 39) rfl))) (Or.inr (hw _ (List.mem_of_getElem? (i := 18) rfl))) (by decide) (t := (.array .long)) (t' := .int) (by decide) (by decide))))
  have f16 := (Fld.other W3 (Fld.other W2 F_10 (Or.inr (slot_ne (Or.inr (hw _ (List.mem_of_getElem? (i := 41) rfl))) (Or.inr (hw _ (List.mem_of_getElem? (i := 16) rfl))) (by decide) (t := (.array .long)) (t' := .int) (by decide) (by decide)))) (Or.inr (slot_ne (Or.inr (hw _ (List.mem_of_getElem? (i := 41) rfl))) (Or.inr (hw _ (List.mem_of_getElem? (i := 18) rfl))) (by decide) (t := (.array .long)) (t' := .int) (by decide) (by decide))))
  have f17 := (Fld.other W3 (Fld.other W2 F_11 (Or.inr (slot_ne (Or.inl (hw _ (List.mem_of_getElem? (i := 95) rfl))) (Or.inr (hw _ (List.mem_of_getElem? (i := 16) rfl))) (by decide) (t := (.object "com/example/gridwright/gridwright/engine/Grid")) (t' := .int) (by decide) (by decide)))) (Or.inr (slot_ne (Or.inl (hw _ (List.mem_of_getElem? (i := 95) rfl))) (Or.inr (hw _ (List.mem_of_getElem? (i := 18) rfl))) (by decide) (t := (.object "com/example/gridwright/gridwright/engine/Grid")) (t' := .int) (by decide) (by decide))))
  have f18 := (Fld.other W3 (Fld.other W2 F_12 (Or.inr (slot_ne (Or.inl (hw _ (List.mem_of_getElem? (i := 107) rfl))) (Or.inr (hw _ (List.mem_of_getElem? (i := 16) rfl))) (by decide) (t := .boolean) (t' := .int) (by decide) (by decide)))) (Or.inr (slot_ne (Or.inl (hw _ (List.mem_of_getElem? (i := 107) rfl))) (Or.inr (hw _ (List.mem_of_getElem? (i := 18) rfl))) (by decide) (t := .boolean) (t' := .int) (by decide) (by decide))))
  have f19 := (Fld.other W3 (Fld.other W2 F_13 (Or.inr (slot_ne (Or.inl (hw _ (List.mem_of_getElem? (i := 109) rfl))) (Or.inr (hw _ (List.mem_of_getElem? (i := 16) rfl))) (by decide) (t := .int) (t' := .int) (by decide) (by decide)))) (Or.inr (slot_ne (Or.inl (hw _ (List.mem_of_getElem? (i := 109) rfl))) (Or.inr (hw _ (List.mem_of_getElem? (i := 18) rfl))) (by decide) (t := .int) (t' := .int) (by decide) (by decide))))
  refine go_ret X3 hx hret hlk (hb hby d2_14) ?_ (by decide) (by decide)
  try rw [e3]
  exact ⟨rfl, N3, eI ▸ K3, f6, f7, F3, f8, f9, f10, f11, f12, f13, f14, f15, f16, f17, f18, f19⟩
theorem ef_rmLi (m : MethodId) (x0 : Addr) (x1 : Int32) (x2 : Int32) : entryFrame m #[(.ref x0), (.int x1), (.int x2)] 4 = mkF m 0 #[.val (.ref x0), .val (.int x1), .val (.int x2), .unset] [] := by first | (simp [entryFrame, mkF, argsToLocals, Value.category]; done) | rfl
theorem pn_4 : plainName "com/example/gridwright/gridwright/engine/LargeDraft" = true := by first | (simp [plainName, overriddenIn]; done) | decide +kernel
theorem d1_0 : decode prog_61_method_1_code 0 = .ok (.aload_n 0, 1) := by decide +kernel
theorem d1_1 : decode prog_61_method_1_code 1 = .ok (.iload_n 1, 1) := by decide +kernel
theorem d1_2 : decode prog_61_method_1_code 2 = .ok (.iload_n 2, 1) := by decide +kernel
theorem pd_2 : parseMethodDescriptor "(II)V" = some ⟨[.int, .int], none⟩ := by decide +kernel
theorem d1_3 : decode prog_61_method_1_code 3 = .ok (.invokespecial 1, 3) := by decide +kernel
theorem d1_6 : decode prog_61_method_1_code 6 = .ok (.aload_n 0, 1) := by decide +kernel
theorem d1_7 : decode prog_61_method_1_code 7 = .ok (.iload_n 1, 1) := by decide +kernel
theorem d1_8 : decode prog_61_method_1_code 8 = .ok (.iload_n 2, 1) := by decide +kernel
theorem d1_9 : decode prog_61_method_1_code 9 = .ok (.invokestatic 7, 3) := by decide +kernel
theorem d1_12 : decode prog_61_method_1_code 12 = .ok (.invokestatic 13, 3) := by decide +kernel
theorem d1_15 : decode prog_61_method_1_code 15 = .ok (.putfield 19, 3) := by decide +kernel
theorem d1_18 : decode prog_61_method_1_code 18 = .ok (.iload_n 1, 1) := by decide +kernel
theorem d1_19 : decode prog_61_method_1_code 19 = .ok (.iload_n 2, 1) := by decide +kernel
theorem d1_20 : decode prog_61_method_1_code 20 = .ok (.iadd, 1) := by decide +kernel
theorem d1_21 : decode prog_61_method_1_code 21 = .ok (.istore_n 3, 1) := by decide +kernel
theorem d1_22 : decode prog_61_method_1_code 22 = .ok (.aload_n 0, 1) := by decide +kernel
theorem d1_23 : decode prog_61_method_1_code 23 = .ok (.iload_n 3, 1) := by decide +kernel
theorem d1_24 : decode prog_61_method_1_code 24 = .ok (.aload_n 0, 1) := by decide +kernel
theorem d1_25 : decode prog_61_method_1_code 25 = .ok (.getfield 19, 3) := by decide +kernel
theorem d1_28 : decode prog_61_method_1_code 28 = .ok (.imul, 1) := by decide +kernel
theorem d1_29 : decode prog_61_method_1_code 29 = .ok (.newarray .long, 2) := by decide +kernel
theorem d1_31 : decode prog_61_method_1_code 31 = .ok (.putfield 25, 3) := by decide +kernel
theorem d1_34 : decode prog_61_method_1_code 34 = .ok (.aload_n 0, 1) := by decide +kernel
theorem d1_35 : decode prog_61_method_1_code 35 = .ok (.iload_n 3, 1) := by decide +kernel
theorem d1_36 : decode prog_61_method_1_code 36 = .ok (.aload_n 0, 1) := by decide +kernel
theorem d1_37 : decode prog_61_method_1_code 37 = .ok (.getfield 19, 3) := by decide +kernel
theorem d1_40 : decode prog_61_method_1_code 40 = .ok (.imul, 1) := by decide +kernel
theorem d1_41 : decode prog_61_method_1_code 41 = .ok (.newarray .long, 2) := by decide +kernel
theorem d1_43 : decode prog_61_method_1_code 43 = .ok (.putfield 29, 3) := by decide +kernel
theorem d1_46 : decode prog_61_method_1_code 46 = .ok (.aload_n 0, 1) := by decide +kernel
theorem d1_47 : decode prog_61_method_1_code 47 = .ok (.iload_n 2, 1) := by decide +kernel
theorem d1_48 : decode prog_61_method_1_code 48 = .ok (.invokestatic 13, 3) := by decide +kernel
theorem d1_51 : decode prog_61_method_1_code 51 = .ok (.newarray .long, 2) := by decide +kernel
theorem d1_53 : decode prog_61_method_1_code 53 = .ok (.putfield 32, 3) := by decide +kernel
theorem d1_56 : decode prog_61_method_1_code 56 = .ok (.aload_n 0, 1) := by decide +kernel
theorem d1_57 : decode prog_61_method_1_code 57 = .ok (.iload_n 1, 1) := by decide +kernel
theorem d1_58 : decode prog_61_method_1_code 58 = .ok (.invokestatic 13, 3) := by decide +kernel
theorem d1_61 : decode prog_61_method_1_code 61 = .ok (.newarray .long, 2) := by decide +kernel
theorem d1_63 : decode prog_61_method_1_code 63 = .ok (.putfield 35, 3) := by decide +kernel
theorem d1_66 : decode prog_61_method_1_code 66 = .ok (.aload_n 0, 1) := by decide +kernel
theorem d1_67 : decode prog_61_method_1_code 67 = .ok (.iload_n 2, 1) := by decide +kernel
theorem d1_68 : decode prog_61_method_1_code 68 = .ok (.invokestatic 13, 3) := by decide +kernel
theorem d1_71 : decode prog_61_method_1_code 71 = .ok (.newarray .long, 2) := by decide +kernel
theorem d1_73 : decode prog_61_method_1_code 73 = .ok (.putfield 38, 3) := by decide +kernel
theorem d1_76 : decode prog_61_method_1_code 76 = .ok (.aload_n 0, 1) := by decide +kernel
theorem d1_77 : decode prog_61_method_1_code 77 = .ok (.iload_n 1, 1) := by decide +kernel
theorem d1_78 : decode prog_61_method_1_code 78 = .ok (.invokestatic 13, 3) := by decide +kernel
theorem d1_81 : decode prog_61_method_1_code 81 = .ok (.newarray .long, 2) := by decide +kernel
theorem d1_83 : decode prog_61_method_1_code 83 = .ok (.putfield 41, 3) := by decide +kernel
theorem d1_86 : decode prog_61_method_1_code 86 = .ok (.return_, 1) := by decide +kernel
set_option maxRecDepth 65536 in
set_option maxHeartbeats 40000000 in
theorem rmLi (l : Launch) (Z : State) (a0 : Array Value) (hw : ∀ d ∈ tables_1, d.before a0 Z = true) (ws : List Jvm.Cond) (a : Addr) (W H : Nat) (h0 : Heap) (n0 : Nat) (Z0 : n0 ≤ h0.size) (E_a : Exa Z h0 a "com/example/gridwright/gridwright/engine/LargeDraft") (F_0 : Fld Z h0 a "com/example/gridwright/gridwright/engine/Draft" "width" "I" (.int (0 : Int32))) (F_1 : Fld Z h0 a "com/example/gridwright/gridwright/engine/Draft" "height" "I" (.int (0 : Int32))) (F_2 : Fld Z h0 a "com/example/gridwright/gridwright/engine/Draft" "taken" "J" (.long (0 : Int64))) (F_3 : Fld Z h0 a "com/example/gridwright/gridwright/engine/Draft" "decided" "I" (.int (0 : Int32))) (F_4 : Fld Z h0 a "com/example/gridwright/gridwright/engine/LargeDraft" "stride" "I" (.int (0 : Int32))) (F_5 : Fld Z h0 a "com/example/gridwright/gridwright/engine/LargeDraft" "filled" "[J" .null) (F_6 : Fld Z h0 a "com/example/gridwright/gridwright/engine/LargeDraft" "empty" "[J" .null) (F_7 : Fld Z h0 a "com/example/gridwright/gridwright/engine/LargeDraft" "changedRows" "[J" .null) (F_8 : Fld Z h0 a "com/example/gridwright/gridwright/engine/LargeDraft" "changedColumns" "[J" .null) (F_9 : Fld Z h0 a "com/example/gridwright/gridwright/engine/LargeDraft" "waitingRows" "[J" .null) (F_10 : Fld Z h0 a "com/example/gridwright/gridwright/engine/LargeDraft" "waitingColumns" "[J" .null) (F_11 : Fld Z h0 a "com/example/gridwright/gridwright/engine/LargeDraft" "grid" "Lcom/example/gridwright/gridwright/engine/Grid;" .null) (F_12 : Fld Z h0 a "com/example/gridwright/gridwright/engine/LargeDraft" "rows" "Z" (.int (0 : Int32))) (F_13 : Fld Z h0 a "com/example/gridwright/gridwright/engine/LargeDraft" "scan" "I" (.int (0 : Int32))) (g_a : n0 ≤ a) (hW1 : 1 ≤ W) (hW : W ≤ 128) (hH1 : 1 ≤ H) (hH : H ≤ 128) :
    Ctr l Z (⟨"com/example/gridwright/gridwright/engine/LargeDraft", "<init>", "(II)V"⟩ : MethodName) prog_61_method_1_code 4 none ws ({ frames := 2, cells := 6, slots := 1032, locals := 26 } : Room) 6 1032 #[(.ref a), (.int (Int32.ofNat W)), (.int (Int32.ofNat H))] h0 (fun v h L => ∃ cr cc rr rc : Addr, v = none ∧ Fr n0 L ∧ Keep h0 h [a] ∧ (h0.size ≤ cr ∧ h0.size ≤ cc ∧ h0.size ≤ rr ∧ h0.size ≤ rc) ∧ (cr ≠ cc ∧ cr ≠ rr ∧ cr ≠ rc ∧ cc ≠ rr ∧ cc ≠ rc ∧ rr ≠ rc) ∧ Exa Z h a "com/example/gridwright/gridwright/engine/LargeDraft" ∧ Fld Z h a "com/example/gridwright/gridwright/engine/Draft" "width" "I" (.int (Int32.ofNat W)) ∧ Fld Z h a "com/example/gridwright/gridwright/engine/Draft" "height" "I" (.int (Int32.ofNat H)) ∧ Fld Z h a "com/example/gridwright/gridwright/engine/Draft" "taken" "J" (.long (0 : Int64)) ∧ Fld Z h a "com/example/gridwright/gridwright/engine/Draft" "decided" "I" (.int (0 : Int32)) ∧ Fld Z h a "com/example/gridwright/gridwright/engine/LargeDraft" "grid" "Lcom/example/gridwright/gridwright/engine/Grid;" .null ∧ Fld Z h a "com/example/gridwright/gridwright/engine/LargeDraft" "changedRows" "[J" (.ref cr) ∧ Fld Z h a "com/example/gridwright/gridwright/engine/LargeDraft" "changedColumns" "[J" (.ref cc) ∧ Fld Z h a "com/example/gridwright/gridwright/engine/LargeDraft" "waitingRows" "[J" (.ref rr) ∧ Fld Z h a "com/example/gridwright/gridwright/engine/LargeDraft" "waitingColumns" "[J" (.ref rc) ∧ Fld Z h a "com/example/gridwright/gridwright/engine/LargeDraft" "rows" "Z" (.int (0 : Int32)) ∧ Fld Z h a "com/example/gridwright/gridwright/engine/LargeDraft" "scan" "I" (.int (0 : Int32)) ∧ AV Z h cr .long ((H + 63) / 64) (lv w0) ∧ AV Z h cc .long ((W + 63) / 64) (lv w0) ∧ AV Z h rr .long ((H + 63) / 64) (lv w0) ∧ AV Z h rc .long ((W + 63) / 64) (lv w0)) := by
  refine Ctr.mk (plainFor_of_name pn_4) fun p e s m below meth c T0 X0 C e0 => go_cast (ef_rmLi m a (Int32.ofNat W) (Int32.ofNat H)) ?_
  have N0 := Fr.nil n0
  obtain ⟨hx, hZ, hby, hml, hown, hnm, hret, hlk⟩ := C
  obtain ⟨hI, eI⟩ : ∃ z, z = h0 := ⟨_, rfl⟩
  have K0 : Keep hI h0 [a] := by rw [eI]; exact Keep.refl _ _
  have hS : (max W H + 63) / 64 ≤ 2 := by omega
  have hSS : (W + H) * ((max W H + 63) / 64) ≤ 256 * 2 := Nat.mul_le_mul (by omega) hS
  show Go _ _ _ _ _ _ _ T0 (mkF m 0 #[.val (.ref a), .val (.int (Int32.ofNat W)), .val (.int (Int32.ofNat H)), .unset] [])
  refine Go.step (fun tt kk => XS.aloadN X0.here hx rfl (hb hby d1_0) rfl rfl kk) ?_
  show Go _ _ _ _ _ _ _ T0 (mkF m 1 #[_, _, _, _] [(.ref a)])
  refine Go.step (fun tt kk => XS.iloadN X0.here hx rfl (hb hby d1_1) rfl kk) ?_
  show Go _ _ _ _ _ _ _ T0 (mkF m 2 #[_, _, _, _] [(.int (Int32.ofNat W)), (.ref a)])
  refine Go.step (fun tt kk => XS.iloadN X0.here hx rfl (hb hby d1_2) rfl kk) ?_
  show Go _ _ _ _ _ _ _ T0 (mkF m 3 #[_, _, _, _] [(.int (Int32.ofNat H)), (.int (Int32.ofNat W)), (.ref a)])
  obtain ⟨v1, T1, L1, X1, q1, st1⟩ := c_init X0 hx hZ hown (y := (⟨"com/example/gridwright/gridwright/engine/Draft", "<init>", "(II)V"⟩ : MethodName)) (hw _ (List.mem_of_getElem? (i := 7) rfl)) (hw _ (List.mem_of_getElem? (i := 8) rfl)) (hw _ (List.mem_of_getElem? (i := 10) rfl)) (hw _ (List.mem_of_getElem? (i := 11) rfl)) rfl (by decide) (a := a) (argsL := [(.int (Int32.ofNat W)), (.int (Int32.ofNat H))]) (rest := []) (rmDi l Z a0 hw [] a (Int32.ofNat W) (Int32.ofNat H) h0 n0 Z0 E_a F_0 F_1 F_2 F_3 F_4 F_5 F_6 F_7 F_8 F_9 F_10 F_11 F_12 F_13 g_a ) e0 pd_2 rfl (by rw [hml]; rfl) (W := 0) (by show 2 * 0 + _ ≤ _; exact Nat.le_of_eq rfl) (by decide) (by decide) (by decide) (by decide) (hb hby d1_3) (Ls := #[.val (.ref a), .val (.int (Int32.ofNat W)), .val (.int (Int32.ofNat H)), .unset])
  generalize e1 : T1.heap = h1 at q1
  obtain ⟨rfl, N1q, K1q, F1q0, F1q1, F1q2, F1q3, F1q4, F1q5, F1q6, F1q7, F1q8, F1q9, F1q10, F1q11, F1q12, F1q13, F1q14⟩ := q1
  have N1 := Fr.app N0 N1q
  have Z1 : n0 ≤ h1.size := Nat.le_trans Z0 K1q.1
  have K1 : Keep hI h1 [a] := K0.trans K1q (allS (Or.inl (List.mem_of_getElem? (i := 0) rfl)) all0)
  refine Go.step (st1) ?_
  show Go _ _ _ _ _ _ _ T1 (mkF m 6 #[_, _, _, _] [])
  refine Go.step (fun tt kk => XS.aloadN X1.here hx rfl (hb hby d1_6) rfl rfl kk) ?_
  show Go _ _ _ _ _ _ _ T1 (mkF m 7 #[_, _, _, _] [(.ref a)])
  refine Go.step (fun tt kk => XS.iloadN X1.here hx rfl (hb hby d1_7) rfl kk) ?_
  show Go _ _ _ _ _ _ _ T1 (mkF m 8 #[_, _, _, _] [(.int (Int32.ofNat W)), (.ref a)])
  refine Go.step (fun tt kk => XS.iloadN X1.here hx rfl (hb hby d1_8) rfl kk) ?_
  show Go _ _ _ _ _ _ _ T1 (mkF m 9 #[_, _, _, _] [(.int (Int32.ofNat H)), (.int (Int32.ofNat W)), (.ref a)])
  obtain ⟨v2, T2, L2, X2, q2, st2⟩ := c_static X1 hx hZ hown (y := (⟨"java/lang/Math", "max", "(II)I"⟩ : MethodName)) (hw _ (List.mem_of_getElem? (i := 19) rfl)) (hw _ (List.mem_of_getElem? (i := 20) rfl)) (hw _ (List.mem_of_getElem? (i := 21) rfl)) (hw _ (List.mem_of_getElem? (i := 22) rfl)) (by decide) (argsL := [(.int (Int32.ofNat W)), (.int (Int32.ofNat H))]) (rest := [(.ref a)]) (rmmx l Z a0 hw [] (Int32.ofNat W) (Int32.ofNat H) h1 n0 Z1) e1 pd_0 rfl (by rw [hml]; rfl) (W := 1) (by show 2 * 0 + _ ≤ _; exact Nat.le_of_eq rfl) (by decide) (by decide) (by decide) (by decide) (hb hby d1_9) (Ls := #[.val (.ref a), .val (.int (Int32.ofNat W)), .val (.int (Int32.ofNat H)), .unset])
  obtain ⟨rfl, rfl, e2⟩ := q2
  have N2 := Fr.app N1 (Fr.nil n0)
  refine Go.step (st2) ?_
  show Go _ _ _ _ _ _ _ T2 (mkF m 12 #[_, _, _, _] [(.int (mx (Int32.ofNat W) (Int32.ofNat H))), (.ref a)])
  rw [own_max _ _ (by omega) (by omega)]
  show Go _ _ _ _ _ _ _ T2 (mkF m 12 #[.val (.ref a), .val (.int (Int32.ofNat W)), .val (.int (Int32.ofNat H)), .unset] [(.int (Int32.ofNat (max W H))), (.ref a)])
  obtain ⟨v3, T3, L3, X3, q3, st3⟩ := c_static X2 hx hZ hown (y := (⟨"com/example/gridwright/gridwright/engine/Grid", "wordsFor", "(I)I"⟩ : MethodName)) (hw _ (List.mem_of_getElem? (i := 23) rfl)) (hw _ (List.mem_of_getElem? (i := 24) rfl)) (hw _ (List.mem_of_getElem? (i := 25) rfl)) (hw _ (List.mem_of_getElem? (i := 26) rfl)) (by decide) (argsL := [(.int (Int32.ofNat (max W H)))]) (rest := [(.ref a)]) (rmwf l Z a0 hw [] (Int32.ofNat (max W H)) h1 n0 Z1) e2 pd_1 rfl (by rw [hml]; rfl) (W := 1) (by show 2 * 0 + _ ≤ _; exact Nat.le_of_eq rfl) (by decide) (by decide) (by decide) (by decide) (hb hby d1_12) (Ls := #[.val (.ref a), .val (.int (Int32.ofNat W)), .val (.int (Int32.ofNat H)), .unset])
  obtain ⟨rfl, rfl, e3⟩ := q3
  have N3 := Fr.app N2 (Fr.nil n0)
  refine Go.step (st3) ?_
  show Go _ _ _ _ _ _ _ T3 (mkF m 15 #[_, _, _, _] [(.int (wf (Int32.ofNat (max W H)))), (.ref a)])
  rw [own_wf _ (by omega)]
  show Go _ _ _ _ _ _ _ T3 (mkF m 15 #[.val (.ref a), .val (.int (Int32.ofNat W)), .val (.int (Int32.ofNat H)), .unset] [(.int (Int32.ofNat ((max W H + 63) / 64))), (.ref a)])
  obtain ⟨T4, h4, X4, e4, W4, st4⟩ := putF X3 hx hZ hown (host := "") (Or.inl (hw _ (List.mem_of_getElem? (i := 27) rfl))) Via.refl e3 F1q5 F1q0 (Or.inr ⟨(hw _ (List.mem_of_getElem? (i := 28) rfl)), rfl, hnm⟩) (hw _ (List.mem_of_getElem? (i := 2) rfl)) (ty := .int) (by decide) rfl rfl (g := (mkF m 15 #[.val (.ref a), .val (.int (Int32.ofNat W)), .val (.int (Int32.ofNat H)), .unset] [(.int (Int32.ofNat ((max W H + 63) / 64))), (.ref a)])) rfl rfl (hb hby d1_15)
  have F4 := Fld.same W4 F1q5
  have N4 := Fr.snoc X4 N3 g_a
  have Z4 : n0 ≤ h4.size := Nat.le_trans Z1 (Keep.of_wr W4).1
  have K4 : Keep hI h4 [a] := K1.wr W4 (Or.inl (List.mem_of_getElem? (i := 0) rfl))
  refine Go.step (st4) ?_
  show Go _ _ _ _ _ _ _ T4 (mkF m 18 #[_, _, _, _] [])
  refine Go.step (fun tt kk => XS.iloadN X4.here hx rfl (hb hby d1_18) rfl kk) ?_
  show Go _ _ _ _ _ _ _ T4 (mkF m 19 #[_, _, _, _] [(.int (Int32.ofNat W))])
  refine Go.step (fun tt kk => XS.iloadN X4.here hx rfl (hb hby d1_19) rfl kk) ?_
  show Go _ _ _ _ _ _ _ T4 (mkF m 20 #[_, _, _, _] [(.int (Int32.ofNat H)), (.int (Int32.ofNat W))])
  refine Go.step (fun tt kk => XS.iadd X4.here hx rfl (hb hby d1_20) rfl kk) ?_
  show Go _ _ _ _ _ _ _ T4 (mkF m 21 #[_, _, _, _] [(.int ((Int32.ofNat W) + (Int32.ofNat H)))])
  rw [← Int32.ofNat_add]
  show Go _ _ _ _ _ _ _ T4 (mkF m 21 #[.val (.ref a), .val (.int (Int32.ofNat W)), .val (.int (Int32.ofNat H)), .unset] [(.int (Int32.ofNat (W + H)))])
  refine Go.step (fun tt kk => XS.istoreN X4.here hx rfl (hb hby d1_21) rfl (l' := #[.val (.ref a), .val (.int (Int32.ofNat W)), .val (.int (Int32.ofNat H)), .val (.int (Int32.ofNat (W + H)))]) rfl kk) ?_
  show Go _ _ _ _ _ _ _ T4 (mkF m 22 #[_, _, _, _] [])
  refine Go.step (fun tt kk => XS.aloadN X4.here hx rfl (hb hby d1_22) rfl rfl kk) ?_
  show Go _ _ _ _ _ _ _ T4 (mkF m 23 #[_, _, _, _] [(.ref a)])
  refine Go.step (fun tt kk => XS.iloadN X4.here hx rfl (hb hby d1_23) rfl kk) ?_
  show Go _ _ _ _ _ _ _ T4 (mkF m 24 #[_, _, _, _] [(.int (Int32.ofNat (W + H))), (.ref a)])
  refine Go.step (fun tt kk => XS.aloadN X4.here hx rfl (hb hby d1_24) rfl rfl kk) ?_
  show Go _ _ _ _ _ _ _ T4 (mkF m 25 #[_, _, _, _] [(.ref a), (.int (Int32.ofNat (W + H))), (.ref a)])
  obtain ⟨T5, X5, e5, st5⟩ := getF X4 hx hZ hown (host := "") (Or.inl (hw _ (List.mem_of_getElem? (i := 27) rfl))) Via.refl e4 F4 (g := (mkF m 25 #[.val (.ref a), .val (.int (Int32.ofNat W)), .val (.int (Int32.ofNat H)), .val (.int (Int32.ofNat (W + H)))] [(.ref a), (.int (Int32.ofNat (W + H))), (.ref a)])) rfl rfl (hb hby d1_25)
  refine Go.step (st5) ?_
  show Go _ _ _ _ _ _ _ T5 (mkF m 28 #[_, _, _, _] [(.int (Int32.ofNat ((max W H + 63) / 64))), (.int (Int32.ofNat (W + H))), (.ref a)])
  refine Go.step (fun tt kk => XS.imul X5.here hx rfl (hb hby d1_28) rfl kk) ?_
  show Go _ _ _ _ _ _ _ T5 (mkF m 29 #[_, _, _, _] [(.int ((Int32.ofNat (W + H)) * (Int32.ofNat ((max W H + 63) / 64)))), (.ref a)])
  rw [← Int32.ofNat_mul]
  show Go _ _ _ _ _ _ _ T5 (mkF m 29 #[.val (.ref a), .val (.int (Int32.ofNat W)), .val (.int (Int32.ofNat H)), .val (.int (Int32.ofNat (W + H)))] [(.int (Int32.ofNat ((W + H) * ((max W H + 63) / 64)))), (.ref a)])
  obtain ⟨T6, h6, k6, X6, e6, E6, A6, EA6, st6⟩ := newPE X5 hx hZ (hw _ (List.mem_of_getElem? (i := 29) rfl)) e5 (g := (mkF m 29 #[.val (.ref a), .val (.int (Int32.ofNat W)), .val (.int (Int32.ofNat H)), .val (.int (Int32.ofNat (W + H)))] [(.int (Int32.ofNat ((W + H) * ((max W H + 63) / 64)))), (.ref a)])) rfl (hb hby d1_29) rfl (own_nn ((W + H) * ((max W H + 63) / 64)) (by omega)) (cap := 512) (by rw [clamp_of (k := ((W + H) * ((max W H + 63) / 64))) (Int32.toInt_ofNat_of_lt (by omega))]; omega) (by decide) (by decide) (by decide) (ad := "[J") rfl
  obtain ⟨b6, g6⟩ : ∃ z, z = h4.size := ⟨_, rfl⟩
  rw [← g6] at A6 EA6 st6
  have f7 := (Exa.wr W4 F1q0)
  have ne_a_b6 : a ≠ b6 := Nat.ne_of_lt (Nat.lt_of_lt_of_le f7.lt (Nat.le_of_eq g6.symm))
  have gn_b6 : n0 ≤ b6 := Nat.le_trans Z4 (Nat.le_of_eq g6.symm)
  have sz_b6 : hI.size ≤ b6 := Nat.le_trans K4.1 (Nat.le_of_eq g6.symm)
  have Z6 : n0 ≤ h6.size := Nat.le_trans Z4 E6.1
  have K6 : Keep hI h6 [a] := K4.ext E6
  have V6 : AV Z h6 b6 .long ((W + H) * ((max W H + 63) / 64)) (fun _ => (.long (0 : Int64))) := AV.new A6 (Int32.toInt_ofNat_of_lt (by omega))
  refine Go.step (st6) ?_
  show Go _ _ _ _ _ _ _ T6 (mkF m 31 #[_, _, _, _] [(.ref b6), (.ref a)])
  have f9 := (Fld.ext E6 (Fld.other W4 F1q6 (Or.inr (slot_ne (Or.inr (hw _ (List.mem_of_getElem? (i := 31) rfl))) (Or.inr (hw _ (List.mem_of_getElem? (i := 28) rfl))) (by decide) (t := (.array .long)) (t' := .int) (by decide) (by decide)))))
  have f10 := (Exa.ext E6 f7)
  obtain ⟨T8, h8, X8, e8, W8, st8⟩ := putF X6 hx hZ hown (host := "") (Or.inl (hw _ (List.mem_of_getElem? (i := 30) rfl))) Via.refl e6 f9 f10 (Or.inr ⟨(hw _ (List.mem_of_getElem? (i := 31) rfl)), rfl, hnm⟩) (hw _ (List.mem_of_getElem? (i := 2) rfl)) (ty := (.array .long)) (by decide) rfl rfl (g := (mkF m 31 #[.val (.ref a), .val (.int (Int32.ofNat W)), .val (.int (Int32.ofNat H)), .val (.int (Int32.ofNat (W + H)))] [(.ref b6), (.ref a)])) rfl rfl (hb hby d1_31)
  have F8 := Fld.same W8 f9
  have N8 := Fr.snoc X8 N4 g_a
  have Z8 : n0 ≤ h8.size := Nat.le_trans Z6 (Keep.of_wr W8).1
  have K8 : Keep hI h8 [a] := K6.wr W8 (Or.inl (List.mem_of_getElem? (i := 0) rfl))
  refine Go.step (st8) ?_
  show Go _ _ _ _ _ _ _ T8 (mkF m 34 #[_, _, _, _] [])
  refine Go.step (fun tt kk => XS.aloadN X8.here hx rfl (hb hby d1_34) rfl rfl kk) ?_
  show Go _ _ _ _ _ _ _ T8 (mkF m 35 #[_, _, _, _] [(.ref a)])
  refine Go.step (fun tt kk => XS.iloadN X8.here hx rfl (hb hby d1_35) rfl kk) ?_
  show Go _ _ _ _ _ _ _ T8 (mkF m 36 #[_, _, _, _] [(.int (Int32.ofNat (W + H))), (.ref a)])
  refine Go.step (fun tt kk => XS.aloadN X8.here hx rfl (hb hby d1_36) rfl rfl kk) ?_
  show Go _ _ _ _ _ _ _ T8 (mkF m 37 #[_, _, _, _] [(.ref a), (.int (Int32.ofNat (W + H))), (.ref a)])
  have f12 := (Fld.other W8 (Fld.ext E6 F4) (Or.inr (slot_ne (Or.inr (hw _ (List.mem_of_getElem? (i := 28) rfl))) (Or.inr (hw _ (List.mem_of_getElem? (i := 31) rfl))) (by decide) (t := .int) (t' := (.array .long)) (by decide) (by decide))))
  obtain ⟨T11, X11, e11, st11⟩ := getF X8 hx hZ hown (host := "") (Or.inl (hw _ (List.mem_of_getElem? (i := 27) rfl))) Via.refl e8 f12 (g := (mkF m 37 #[.val (.ref a), .val (.int (Int32.ofNat W)), .val (.int (Int32.ofNat H)), .val (.int (Int32.ofNat (W + H)))] [(.ref a), (.int (Int32.ofNat (W + H))), (.ref a)])) rfl rfl (hb hby d1_37)
  refine Go.step (st11) ?_
  show Go _ _ _ _ _ _ _ T11 (mkF m 40 #[_, _, _, _] [(.int (Int32.ofNat ((max W H + 63) / 64))), (.int (Int32.ofNat (W + H))), (.ref a)])
  refine Go.step (fun tt kk => XS.imul X11.here hx rfl (hb hby d1_40) rfl kk) ?_
  show Go _ _ _ _ _ _ _ T11 (mkF m 41 #[_, _, _, _] [(.int ((Int32.ofNat (W + H)) * (Int32.ofNat ((max W H + 63) / 64)))), (.ref a)])
  rw [← Int32.ofNat_mul]
  show Go _ _ _ _ _ _ _ T11 (mkF m 41 #[.val (.ref a), .val (.int (Int32.ofNat W)), .val (.int (Int32.ofNat H)), .val (.int (Int32.ofNat (W + H)))] [(.int (Int32.ofNat ((W + H) * ((max W H + 63) / 64)))), (.ref a)])
  obtain ⟨T13, h13, k13, X13, e13, E13, A13, EA13, st13⟩ := newPE X11 hx hZ (hw _ (List.mem_of_getElem? (i := 29) rfl)) e11 (g := (mkF m 41 #[.val (.ref a), .val (.int (Int32.ofNat W)), .val (.int (Int32.ofNat H)), .val (.int (Int32.ofNat (W + H)))] [(.int (Int32.ofNat ((W + H) * ((max W H + 63) / 64)))), (.ref a)])) rfl (hb hby d1_41) rfl (own_nn ((W + H) * ((max W H + 63) / 64)) (by omega)) (cap := 512) (by rw [clamp_of (k := ((W + H) * ((max W H + 63) / 64))) (Int32.toInt_ofNat_of_lt (by omega))]; omega) (by decide) (by decide) (by decide) (ad := "[J") rfl
  obtain ⟨b13, g13⟩ : ∃ z, z = h8.size := ⟨_, rfl⟩
  rw [← g13] at A13 EA13 st13
  have f14 := (Exa.wr W8 f10)
  have ne_a_b13 : a ≠ b13 := Nat.ne_of_lt (Nat.lt_of_lt_of_le f14.lt (Nat.le_of_eq g13.symm))
  have f15 := (Exa.wr W8 EA6)
  have ne_b6_b13 : b6 ≠ b13 := Nat.ne_of_lt (Nat.lt_of_lt_of_le f15.lt (Nat.le_of_eq g13.symm))
  have gn_b13 : n0 ≤ b13 := Nat.le_trans Z8 (Nat.le_of_eq g13.symm)
  have sz_b13 : hI.size ≤ b13 := Nat.le_trans K8.1 (Nat.le_of_eq g13.symm)
  have Z13 : n0 ≤ h13.size := Nat.le_trans Z8 E13.1
  have K13 : Keep hI h13 [a] := K8.ext E13
  have V13 : AV Z h13 b13 .long ((W + H) * ((max W H + 63) / 64)) (fun _ => (.long (0 : Int64))) := AV.new A13 (Int32.toInt_ofNat_of_lt (by omega))
  refine Go.step (st13) ?_
  show Go _ _ _ _ _ _ _ T13 (mkF m 43 #[_, _, _, _] [(.ref b13), (.ref a)])
  have f17 := (Fld.ext E13 (Fld.other W8 (Fld.ext E6 (Fld.other W4 F1q7 (Or.inr (slot_ne (Or.inr (hw _ (List.mem_of_getElem? (i := 33) rfl))) (Or.inr (hw _ (List.mem_of_getElem? (i := 28) rfl))) (by decide) (t := (.array .long)) (t' := .int) (by decide) (by decide))))) (Or.inr (slot_ne (Or.inr (hw _ (List.mem_of_getElem? (i := 33) rfl))) (Or.inr (hw _ (List.mem_of_getElem? (i := 31) rfl))) (by decide) (t := (.array .long)) (t' := (.array .long)) (by decide) (by decide)))))
  have f18 := (Exa.ext E13 f14)
  obtain ⟨T16, h16, X16, e16, W16, st16⟩ := putF X13 hx hZ hown (host := "") (Or.inl (hw _ (List.mem_of_getElem? (i := 32) rfl))) Via.refl e13 f17 f18 (Or.inr ⟨(hw _ (List.mem_of_getElem? (i := 33) rfl)), rfl, hnm⟩) (hw _ (List.mem_of_getElem? (i := 2) rfl)) (ty := (.array .long)) (by decide) rfl rfl (g := (mkF m 43 #[.val (.ref a), .val (.int (Int32.ofNat W)), .val (.int (Int32.ofNat H)), .val (.int (Int32.ofNat (W + H)))] [(.ref b13), (.ref a)])) rfl rfl (hb hby d1_43)
  have F16 := Fld.same W16 f17
  have N16 := Fr.snoc X16 N8 g_a
  have Z16 : n0 ≤ h16.size := Nat.le_trans Z13 (Keep.of_wr W16).1
  have K16 : Keep hI h16 [a] := K13.wr W16 (Or.inl (List.mem_of_getElem? (i := 0) rfl))
  refine Go.step (st16) ?_
  show Go _ _ _ _ _ _ _ T16 (mkF m 46 #[_, _, _, _] [])
  refine Go.step (fun tt kk => XS.aloadN X16.here hx rfl (hb hby d1_46) rfl rfl kk) ?_
  show Go _ _ _ _ _ _ _ T16 (mkF m 47 #[_, _, _, _] [(.ref a)])
  refine Go.step (fun tt kk => XS.iloadN X16.here hx rfl (hb hby d1_47) rfl kk) ?_
  show Go _ _ _ _ _ _ _ T16 (mkF m 48 #[_, _, _, _] [(.int (Int32.ofNat H)), (.ref a)])
  obtain ⟨v19, T19, L19, X19, q19, st19⟩ := c_static X16 hx hZ hown (y := (⟨"com/example/gridwright/gridwright/engine/Grid", "wordsFor", "(I)I"⟩ : MethodName)) (hw _ (List.mem_of_getElem? (i := 23) rfl)) (hw _ (List.mem_of_getElem? (i := 24) rfl)) (hw _ (List.mem_of_getElem? (i := 25) rfl)) (hw _ (List.mem_of_getElem? (i := 26) rfl)) (by decide) (argsL := [(.int (Int32.ofNat H))]) (rest := [(.ref a)]) (rmwf l Z a0 hw [] (Int32.ofNat H) h16 n0 Z16) e16 pd_1 rfl (by rw [hml]; rfl) (W := 1) (by show 2 * 0 + _ ≤ _; exact Nat.le_of_eq rfl) (by decide) (by decide) (by decide) (by decide) (hb hby d1_48) (Ls := #[.val (.ref a), .val (.int (Int32.ofNat W)), .val (.int (Int32.ofNat H)), .val (.int (Int32.ofNat (W + H)))])
  obtain ⟨rfl, rfl, e19⟩ := q19
  have N19 := Fr.app N16 (Fr.nil n0)
  refine Go.step (st19) ?_
  show Go _ _ _ _ _ _ _ T19 (mkF m 51 #[_, _, _, _] [(.int (wf (Int32.ofNat H))), (.ref a)])
  rw [own_wf _ (by omega)]
  show Go _ _ _ _ _ _ _ T19 (mkF m 51 #[.val (.ref a), .val (.int (Int32.ofNat W)), .val (.int (Int32.ofNat H)), .val (.int (Int32.ofNat (W + H)))] [(.int (Int32.ofNat ((H + 63) / 64))), (.ref a)])
  obtain ⟨T20, h20, k20, X20, e20, E20, A20, EA20, st20⟩ := newPE X19 hx hZ (hw _ (List.mem_of_getElem? (i := 29) rfl)) e19 (g := (mkF m 51 #[.val (.ref a), .val (.int (Int32.ofNat W)), .val (.int (Int32.ofNat H)), .val (.int (Int32.ofNat (W + H)))] [(.int (Int32.ofNat ((H + 63) / 64))), (.ref a)])) rfl (hb hby d1_51) rfl (own_nn ((H + 63) / 64) (by omega)) (cap := 2) (by rw [clamp_of (k := ((H + 63) / 64)) (Int32.toInt_ofNat_of_lt (by omega))]; omega) (by decide) (by decide) (by decide) (ad := "[J") rfl
  obtain ⟨b20, g20⟩ : ∃ z, z = h16.size := ⟨_, rfl⟩
  rw [← g20] at A20 EA20 st20
  have f21 := (Exa.wr W16 f18)
  have ne_a_b20 : a ≠ b20 := Nat.ne_of_lt (Nat.lt_of_lt_of_le f21.lt (Nat.le_of_eq g20.symm))
  have f22 := (Exa.wr W16 (Exa.ext E13 f15))
  have ne_b6_b20 : b6 ≠ b20 := Nat.ne_of_lt (Nat.lt_of_lt_of_le f22.lt (Nat.le_of_eq g20.symm))
  have f23 := (Exa.wr W16 EA13)
  have ne_b13_b20 : b13 ≠ b20 := Nat.ne_of_lt (Nat.lt_of_lt_of_le f23.lt (Nat.le_of_eq g20.symm))
  have gn_b20 : n0 ≤ b20 := Nat.le_trans Z16 (Nat.le_of_eq g20.symm)
  have sz_b20 : hI.size ≤ b20 := Nat.le_trans K16.1 (Nat.le_of_eq g20.symm)
  have Z20 : n0 ≤ h20.size := Nat.le_trans Z16 E20.1
  have K20 : Keep hI h20 [a] := K16.ext E20
  have V20 : AV Z h20 b20 .long ((H + 63) / 64) (fun _ => (.long (0 : Int64))) := AV.new A20 (Int32.toInt_ofNat_of_lt (by omega))
  refine Go.step (st20) ?_
  show Go _ _ _ _ _ _ _ T20 (mkF m 53 #[_, _, _, _] [(.ref b20), (.ref a)])
  have f25 := (Fld.ext E20 (Fld.other W16 (Fld.ext E13 (Fld.other W8 (Fld.ext E6 (Fld.other W4 F1q8 (Or.inr (slot_ne (Or.inr (hw _ (List.mem_of_getElem? (i := 35) rfl))) (Or.inr (hw _ (List.mem_of_getElem? (i := 28) rfl))) (by decide) (t := (.array .long)) (t' := .int) (by decide) (by decide))))) (Or.inr (slot_ne (Or.inr (hw _ (List.mem_of_getElem? (i := 35) rfl))) (Or.inr (hw _ (List.mem_of_getElem? (i := 31) rfl))) (by decide) (t := (.array .long)) (t' := (.array .long)) (by decide) (by decide))))) (Or.inr (slot_ne (Or.inr (hw _ (List.mem_of_getElem? (i := 35) rfl))) (Or.inr (hw _ (List.mem_of_getElem? (i := 33) rfl))) (by decide) (t := (.array .long)) (t' := (.array .long)) (by decide) (by decide)))))
  have f26 := (Exa.ext E20 f21)
  obtain ⟨T24, h24, X24, e24, W24, st24⟩ := putF X20 hx hZ hown (host := "") (Or.inl (hw _ (List.mem_of_getElem? (i := 34) rfl))) Via.refl e20 f25 f26 (Or.inr ⟨(hw _ (List.mem_of_getElem? (i := 35) rfl)), rfl, hnm⟩) (hw _ (List.mem_of_getElem? (i := 2) rfl)) (ty := (.array .long)) (by decide) rfl rfl (g := (mkF m 53 #[.val (.ref a), .val (.int (Int32.ofNat W)), .val (.int (Int32.ofNat H)), .val (.int (Int32.ofNat (W + H)))] [(.ref b20), (.ref a)])) rfl rfl (hb hby d1_53)
  have F24 := Fld.same W24 f25
  have N24 := Fr.snoc X24 N19 g_a
  have Z24 : n0 ≤ h24.size := Nat.le_trans Z20 (Keep.of_wr W24).1
  have K24 : Keep hI h24 [a] := K20.wr W24 (Or.inl (List.mem_of_getElem? (i := 0) rfl))
  refine Go.step (st24) ?_
  show Go _ _ _ _ _ _ _ T24 (mkF m 56 #[_, _, _, _] [])
  refine Go.step (fun tt kk => XS.aloadN X24.here hx rfl (hb hby d1_56) rfl rfl kk) ?_
  show Go _ _ _ _ _ _ _ T24 (mkF m 57 #[_, _, _, _] [(.ref a)])
  refine Go.step (fun tt kk => XS.iloadN X24.here hx rfl (hb hby d1_57) rfl kk) ?_
  show Go _ _ _ _ _ _ _ T24 (mkF m 58 #[_, _, _, _] [(.int (Int32.ofNat W)), (.ref a)])
  obtain ⟨v27, T27, L27, X27, q27, st27⟩ := c_static X24 hx hZ hown (y := (⟨"com/example/gridwright/gridwright/engine/Grid", "wordsFor", "(I)I"⟩ : MethodName)) (hw _ (List.mem_of_getElem? (i := 23) rfl)) (hw _ (List.mem_of_getElem? (i := 24) rfl)) (hw _ (List.mem_of_getElem? (i := 25) rfl)) (hw _ (List.mem_of_getElem? (i := 26) rfl)) (by decide) (argsL := [(.int (Int32.ofNat W))]) (rest := [(.ref a)]) (rmwf l Z a0 hw [] (Int32.ofNat W) h24 n0 Z24) e24 pd_1 rfl (by rw [hml]; rfl) (W := 1) (by show 2 * 0 + _ ≤ _; exact Nat.le_of_eq rfl) (by decide) (by decide) (by decide) (by decide) (hb hby d1_58) (Ls := #[.val (.ref a), .val (.int (Int32.ofNat W)), .val (.int (Int32.ofNat H)), .val (.int (Int32.ofNat (W + H)))])
  obtain ⟨rfl, rfl, e27⟩ := q27
  have N27 := Fr.app N24 (Fr.nil n0)
  refine Go.step (st27) ?_
  show Go _ _ _ _ _ _ _ T27 (mkF m 61 #[_, _, _, _] [(.int (wf (Int32.ofNat W))), (.ref a)])
  rw [own_wf _ (by omega)]
  show Go _ _ _ _ _ _ _ T27 (mkF m 61 #[.val (.ref a), .val (.int (Int32.ofNat W)), .val (.int (Int32.ofNat H)), .val (.int (Int32.ofNat (W + H)))] [(.int (Int32.ofNat ((W + 63) / 64))), (.ref a)])
  obtain ⟨T28, h28, k28, X28, e28, E28, A28, EA28, st28⟩ := newPE X27 hx hZ (hw _ (List.mem_of_getElem? (i := 29) rfl)) e27 (g := (mkF m 61 #[.val (.ref a), .val (.int (Int32.ofNat W)), .val (.int (Int32.ofNat H)), .val (.int (Int32.ofNat (W + H)))] [(.int (Int32.ofNat ((W + 63) / 64))), (.ref a)])) rfl (hb hby d1_61) rfl (own_nn ((W + 63) / 64) (by omega)) (cap := 2) (by rw [clamp_of (k := ((W + 63) / 64)) (Int32.toInt_ofNat_of_lt (by omega))]; omega) (by decide) (by decide) (by decide) (ad := "[J") rfl
  obtain ⟨b28, g28⟩ : ∃ z, z = h24.size := ⟨_, rfl⟩
  rw [← g28] at A28 EA28 st28
  have f29 := (Exa.wr W24 f26)
  have ne_a_b28 : a ≠ b28 := Nat.ne_of_lt (Nat.lt_of_lt_of_le f29.lt (Nat.le_of_eq g28.symm))
  have f30 := (Exa.wr W24 (Exa.ext E20 f22))
  have ne_b6_b28 : b6 ≠ b28 := Nat.ne_of_lt (Nat.lt_of_lt_of_le f30.lt (Nat.le_of_eq g28.symm))
  have f31 := (Exa.wr W24 (Exa.ext E20 f23))
  have ne_b13_b28 : b13 ≠ b28 := Nat.ne_of_lt (Nat.lt_of_lt_of_le f31.lt (Nat.le_of_eq g28.symm))
  have f32 := (Exa.wr W24 EA20)
  have ne_b20_b28 : b20 ≠ b28 := Nat.ne_of_lt (Nat.lt_of_lt_of_le f32.lt (Nat.le_of_eq g28.symm))
  have gn_b28 : n0 ≤ b28 := Nat.le_trans Z24 (Nat.le_of_eq g28.symm)
  have sz_b28 : hI.size ≤ b28 := Nat.le_trans K24.1 (Nat.le_of_eq g28.symm)
  have Z28 : n0 ≤ h28.size := Nat.le_trans Z24 E28.1
  have K28 : Keep hI h28 [a] := K24.ext E28
  have V28 : AV Z h28 b28 .long ((W + 63) / 64) (fun _ => (.long (0 : Int64))) := AV.new A28 (Int32.toInt_ofNat_of_lt (by omega))
  refine Go.step (st28) ?_
  show Go _ _ _ _ _ _ _ T28 (mkF m 63 #[_, _, _, _] [(.ref b28), (.ref a)])
  have f34 := (Fld.ext E28 (Fld.other W24 (Fld.ext E20 (Fld.other W16 (Fld.ext E13 (Fld.other W8 (Fld.ext E6 (Fld.other W4 F1q9 (Or.inr (slot_ne (Or.inr (hw _ (List.mem_of_getElem? (i := 37) rfl))) (Or.inr (hw _ (List.mem_of_getElem? (i := 28) rfl))) (by decide) (t := (.array .long)) (t' := .int) (by decide) (by decide))))) (Or.inr (slot_ne (Or.inr (hw _ (List.mem_of_getElem? (i := 37) rfl))) (Or.inr (hw _ (List.mem_of_getElem? (i := 31) rfl))) (by decide) (t := (.array .long)) (t' := (.array .long)) (by decide) (by decide))))) (Or.inr (slot_ne (Or.inr (hw _ (List.mem_of_getElem? (i := 37) rfl))) (Or.inr (hw _ (List.mem_of_getElem? (i := 33) rfl))) (by decide) (t := (.array .long)) (t' := (.array .long)) (by decide) (by decide))))) (Or.inr (slot_ne (Or.inr (hw _ (List.mem_of_getElem? (i := 37) rfl))) (Or.inr (hw _ (List.mem_of_getElem? (i := 35) rfl))) (by decide) (t := (.array .long)) (t' := (.array .long)) (by decide) (by decide)))))
  have f35 := (Exa.ext E28 f29)
  obtain ⟨T33, h33, X33, e33, W33, st33⟩ := putF X28 hx hZ hown (host := "") (Or.inl (hw _ (List.mem_of_getElem? (i := 36) rfl))) Via.refl e28 f34 f35 (Or.inr ⟨(hw _ (List.mem_of_getElem? (i := 37) rfl)), rfl, hnm⟩) (hw _ (List.mem_of_getElem? (i := 2) rfl)) (ty := (.array .long)) (by decide) rfl rfl (g := (mkF m 63 #[.val (.ref a), .val (.int (Int32.ofNat W)), .val (.int (Int32.ofNat H)), .val (.int (Int32.ofNat (W + H)))] [(.ref b28), (.ref a)])) rfl rfl (hb hby d1_63)
  have F33 := Fld.same W33 f34
  have N33 := Fr.snoc X33 N27 g_a
  have Z33 : n0 ≤ h33.size := Nat.le_trans Z28 (Keep.of_wr W33).1
  have K33 : Keep hI h33 [a] := K28.wr W33 (Or.inl (List.mem_of_getElem? (i := 0) rfl))
  refine Go.step (st33) ?_
  show Go _ _ _ _ _ _ _ T33 (mkF m 66 #[_, _, _, _] [])
  refine Go.step (fun tt kk => XS.aloadN X33.here hx rfl (hb hby d1_66) rfl rfl kk) ?_
  show Go _ _ _ _ _ _ _ T33 (mkF m 67 #[_, _, _, _] [(.ref a)])
  refine Go.step (fun tt kk => XS.iloadN X33.here hx rfl (hb hby d1_67) rfl kk) ?_
  show Go _ _ _ _ _ _ _ T33 (mkF m 68 #[_, _, _, _] [(.int (Int32.ofNat H)), (.ref a)])
  obtain ⟨v36, T36, L36, X36, q36, st36⟩ := c_static X33 hx hZ hown (y := (⟨"com/example/gridwright/gridwright/engine/Grid", "wordsFor", "(I)I"⟩ : MethodName)) (hw _ (List.mem_of_getElem? (i := 23) rfl)) (hw _ (List.mem_of_getElem? (i := 24) rfl)) (hw _ (List.mem_of_getElem? (i := 25) rfl)) (hw _ (List.mem_of_getElem? (i := 26) rfl)) (by decide) (argsL := [(.int (Int32.ofNat H))]) (rest := [(.ref a)]) (rmwf l Z a0 hw [] (Int32.ofNat H) h33 n0 Z33) e33 pd_1 rfl (by rw [hml]; rfl) (W := 1) (by show 2 * 0 + _ ≤ _; exact Nat.le_of_eq rfl) (by decide) (by decide) (by decide) (by decide) (hb hby d1_68) (Ls := #[.val (.ref a), .val (.int (Int32.ofNat W)), .val (.int (Int32.ofNat H)), .val (.int (Int32.ofNat (W + H)))])
  obtain ⟨rfl, rfl, e36⟩ := q36
  have N36 := Fr.app N33 (Fr.nil n0)
  refine Go.step (st36) ?_
  show Go _ _ _ _ _ _ _ T36 (mkF m 71 #[_, _, _, _] [(.int (wf (Int32.ofNat H))), (.ref a)])
  rw [own_wf _ (by omega)]
  show Go _ _ _ _ _ _ _ T36 (mkF m 71 #[.val (.ref a), .val (.int (Int32.ofNat W)), .val (.int (Int32.ofNat H)), .val (.int (Int32.ofNat (W + H)))] [(.int (Int32.ofNat ((H + 63) / 64))), (.ref a)])
  obtain ⟨T37, h37, k37, X37, e37, E37, A37, EA37, st37⟩ := newPE X36 hx hZ (hw _ (List.mem_of_getElem? (i := 29) rfl)) e36 (g := (mkF m 71 #[.val (.ref a), .val (.int (Int32.ofNat W)), .val (.int (Int32.ofNat H)), .val (.int (Int32.ofNat (W + H)))] [(.int (Int32.ofNat ((H + 63) / 64))), (.ref a)])) rfl (hb hby d1_71) rfl (own_nn ((H + 63) / 64) (by omega)) (cap := 2) (by rw [clamp_of (k := ((H + 63) / 64)) (Int32.toInt_ofNat_of_lt (by omega))]; omega) (by decide) (by decide) (by decide) (ad := "[J") rfl
  obtain ⟨b37, g37⟩ : ∃ z, z = h33.size := ⟨_, rfl⟩
  rw [← g37] at A37 EA37 st37
  have f38 := (Exa.wr W33 f35)
  have ne_a_b37 : a ≠ b37 := Nat.ne_of_lt (Nat.lt_of_lt_of_le f38.lt (Nat.le_of_eq g37.symm))
  have f39 := (Exa.wr W33 (Exa.ext E28 f30))
  have ne_b6_b37 : b6 ≠ b37 := Nat.ne_of_lt (Nat.lt_of_lt_of_le f39.lt (Nat.le_of_eq g37.symm))
  have f40 := (Exa.wr W33 (Exa.ext E28 f31))
  have ne_b13_b37 : b13 ≠ b37 := Nat.ne_of_lt (Nat.lt_of_lt_of_le f40.lt (Nat.le_of_eq g37.symm))
  have f41 := (Exa.wr W33 (Exa.ext E28 f32))
  have ne_b20_b37 : b20 ≠ b37 := Nat.ne_of_lt (Nat.lt_of_lt_of_le f41.lt (Nat.le_of_eq g37.symm))
  have f42 := (Exa.wr W33 EA28)
  have ne_b28_b37 : b28 ≠ b37 := Nat.ne_of_lt (Nat.lt_of_lt_of_le f42.lt (Nat.le_of_eq g37.symm))
  have gn_b37 : n0 ≤ b37 := Nat.le_trans Z33 (Nat.le_of_eq g37.symm)
  have sz_b37 : hI.size ≤ b37 := Nat.le_trans K33.1 (Nat.le_of_eq g37.symm)
  have Z37 : n0 ≤ h37.size := Nat.le_trans Z33 E37.1
  have K37 : Keep hI h37 [a] := K33.ext E37
  have V37 : AV Z h37 b37 .long ((H + 63) / 64) (fun _ => (.long (0 : Int64))) := AV.new A37 (Int32.toInt_ofNat_of_lt (by omega))
  refine Go.step (st37) ?_
  show Go _ _ _ _ _ _ _ T37 (mkF m 73 #[_, _, _, _] [(.ref b37), (.ref a)])
  have f44 := (Fld.ext E37 (Fld.other W33 (Fld.ext E28 (Fld.other W24 (Fld.ext E20 (Fld.other W16 (Fld.ext E13 (Fld.other W8 (Fld.ext E6 (Fld.other W4 F1q10 (Or.inr (slot_ne (Or.inr (hw _ (List.mem_of_getElem? (i := 39) rfl))) (Or.inr (hw _ (List.mem_of_getElem? (i := 28) rfl))) (by decide) (t := (.array .long)) (t' := .int) (by decide) (by decide))))) (Or.inr (slot_ne (Or.inr (hw _ (List.mem_of_getElem? (i := 39) rfl))) (Or.inr (hw _ (List.mem_of_getElem? (i := 31) rfl))) (by decide) (t := (.array .long)) (t' := (.array .long)) (by decide) (by decide))))) (Or.inr (slot_ne (Or.inr (hw _ (List.mem_of_getElem? (i := 39) rfl))) (Or.inr (hw _ (List.mem_of_getElem? (i := 33) rfl))) (by decide) (t := (.array .long)) (t' := (.array .long)) (by decide) (by decide))))) (Or.inr (slot_ne (Or.inr (hw _ (List.mem_of_getElem? (i := 39) rfl))) (Or.inr (hw _ (List.mem_of_getElem? (i := 35) rfl))) (by decide) (t := (.array .long)) (t' := (.array .long)) (by decide) (by decide))))) (Or.inr (slot_ne (Or.inr (hw _ (List.mem_of_getElem? (i := 39) rfl))) (Or.inr (hw _ (List.mem_of_getElem? (i := 37) rfl))) (by decide) (t := (.array .long)) (t' := (.array .long)) (by decide) (by decide)))))
  have f45 := (Exa.ext E37 f38)
  obtain ⟨T43, h43, X43, e43, W43, st43⟩ := putF X37 hx hZ hown (host := "") (Or.inl (hw _ (List.mem_of_getElem? (i := 38) rfl))) Via.refl e37 f44 f45 (Or.inr ⟨(hw _ (List.mem_of_getElem? (i := 39) rfl)), rfl, hnm⟩) (hw _ (List.mem_of_getElem? (i := 2) rfl)) (ty := (.array .long)) (by decide) rfl rfl (g := (mkF m 73 #[.val (.ref a), .val (.int (Int32.ofNat W)), .val (.int (Int32.ofNat H)), .val (.int (Int32.ofNat (W + H)))] [(.ref b37), (.ref a)])) rfl rfl (hb hby d1_73)
  have F43 := Fld.same W43 f44
  have N43 := Fr.snoc X43 N36 g_a
  have Z43 : n0 ≤ h43.size := Nat.le_trans Z37 (Keep.of_wr W43).1
  have K43 : Keep hI h43 [a] := K37.wr W43 (Or.inl (List.mem_of_getElem? (i := 0) rfl))
  refine Go.step (st43) ?_
  show Go _ _ _ _ _ _ _ T43 (mkF m 76 #[_, _, _, _] [])
  refine Go.step (fun tt kk => XS.aloadN X43.here hx rfl (hb hby d1_76) rfl rfl kk) ?_
  show Go _ _ _ _ _ _ _ T43 (mkF m 77 #[_, _, _, _] [(.ref a)])
  refine Go.step (fun tt kk => XS.iloadN X43.here hx rfl (hb hby d1_77) rfl kk) ?_
  show Go _ _ _ _ _ _ _ T43 (mkF m 78 #[_, _, _, _] [(.int (Int32.ofNat W)), (.ref a)])
  obtain ⟨v46, T46, L46, X46, q46, st46⟩ := c_static X43 hx hZ hown (y := (⟨"com/example/gridwright/gridwright/engine/Grid", "wordsFor", "(I)I"⟩ : MethodName)) (hw _ (List.mem_of_getElem? (i := 23) rfl)) (hw _ (List.mem_of_getElem? (i := 24) rfl)) (hw _ (List.mem_of_getElem? (i := 25) rfl)) (hw _ (List.mem_of_getElem? (i := 26) rfl)) (by decide) (argsL := [(.int (Int32.ofNat W))]) (rest := [(.ref a)]) (rmwf l Z a0 hw [] (Int32.ofNat W) h43 n0 Z43) e43 pd_1 rfl (by rw [hml]; rfl) (W := 1) (by show 2 * 0 + _ ≤ _; exact Nat.le_of_eq rfl) (by decide) (by decide) (by decide) (by decide) (hb hby d1_78) (Ls := #[.val (.ref a), .val (.int (Int32.ofNat W)), .val (.int (Int32.ofNat H)), .val (.int (Int32.ofNat (W + H)))])
  obtain ⟨rfl, rfl, e46⟩ := q46
  have N46 := Fr.app N43 (Fr.nil n0)
  refine Go.step (st46) ?_
  show Go _ _ _ _ _ _ _ T46 (mkF m 81 #[_, _, _, _] [(.int (wf (Int32.ofNat W))), (.ref a)])
  rw [own_wf _ (by omega)]
  show Go _ _ _ _ _ _ _ T46 (mkF m 81 #[.val (.ref a), .val (.int (Int32.ofNat W)), .val (.int (Int32.ofNat H)), .val (.int (Int32.ofNat (W + H)))] [(.int (Int32.ofNat ((W + 63) / 64))), (.ref a)])
  obtain ⟨T47, h47, k47, X47, e47, E47, A47, EA47, st47⟩ := newPE X46 hx hZ (hw _ (List.mem_of_getElem? (i := 29) rfl)) e46 (g := (mkF m 81 #[.val (.ref a), .val (.int (Int32.ofNat W)), .val (.int (Int32.ofNat H)), .val (.int (Int32.ofNat (W + H)))] [(.int (Int32.ofNat ((W + 63) / 64))), (.ref a)])) rfl (hb hby d1_81) rfl (own_nn ((W + 63) / 64) (by omega)) (cap := 2) (by rw [clamp_of (k := ((W + 63) / 64)) (Int32.toInt_ofNat_of_lt (by omega))]; omega) (by decide) (by decide) (by decide) (ad := "[J") rfl
  obtain ⟨b47, g47⟩ : ∃ z, z = h43.size := ⟨_, rfl⟩
  rw [← g47] at A47 EA47 st47
  have f48 := (Exa.wr W43 f45)
  have ne_a_b47 : a ≠ b47 := Nat.ne_of_lt (Nat.lt_of_lt_of_le f48.lt (Nat.le_of_eq g47.symm))
  have f49 := (Exa.wr W43 (Exa.ext E37 f39))
  have ne_b6_b47 : b6 ≠ b47 := Nat.ne_of_lt (Nat.lt_of_lt_of_le f49.lt (Nat.le_of_eq g47.symm))
  have f50 := (Exa.wr W43 (Exa.ext E37 f40))
  have ne_b13_b47 : b13 ≠ b47 := Nat.ne_of_lt (Nat.lt_of_lt_of_le f50.lt (Nat.le_of_eq g47.symm))
  have f51 := (Exa.wr W43 (Exa.ext E37 f41))
  have ne_b20_b47 : b20 ≠ b47 := Nat.ne_of_lt (Nat.lt_of_lt_of_le f51.lt (Nat.le_of_eq g47.symm))
  have f52 := (Exa.wr W43 (Exa.ext E37 f42))
  have ne_b28_b47 : b28 ≠ b47 := Nat.ne_of_lt (Nat.lt_of_lt_of_le f52.lt (Nat.le_of_eq g47.symm))
  have f53 := (Exa.wr W43 EA37)
  have ne_b37_b47 : b37 ≠ b47 := Nat.ne_of_lt (Nat.lt_of_lt_of_le f53.lt (Nat.le_of_eq g47.symm))
  have gn_b47 : n0 ≤ b47 := Nat.le_trans Z43 (Nat.le_of_eq g47.symm)
  have sz_b47 : hI.size ≤ b47 := Nat.le_trans K43.1 (Nat.le_of_eq g47.symm)
  have Z47 : n0 ≤ h47.size := Nat.le_trans Z43 E47.1
  have K47 : Keep hI h47 [a] := K43.ext E47
  have V47 : AV Z h47 b47 .long ((W + 63) / 64) (fun _ => (.long (0 : Int64))) := AV.new A47 (Int32.toInt_ofNat_of_lt (by omega))
  refine Go.step (st47) ?_
  show Go _ _ _ _ _ _ _ T47 (mkF m 83 #[_, _, _, _] [(.ref b47), (.ref a)])
  have f55 := (Fld.ext E47 (Fld.other W43 (Fld.ext E37 (Fld.other W33 (Fld.ext E28 (Fld.other W24 (Fld.ext E20 (Fld.other W16 (Fld.ext E13 (Fld.other W8 (Fld.ext E6 (Fld.other W4 F1q11 (Or.inr (slot_ne (Or.inr (hw _ (List.mem_of_getElem? (i := 41) rfl))) (Or.inr (hw _ (List.mem_of_getElem? (i := 28) rfl))) (by decide) (t := (.array .long)) (t' := .int) (by decide) (by decide))))) (Or.inr (slot_ne (Or.inr (hw _ (List.mem_of_getElem? (i := 41) rfl))) (Or.inr (hw _ (List.mem_of_getElem? (i := 31) rfl))) (by decide) (t := (.array .long)) (t' := (.array .long)) (by decide) (by decide))))) (Or.inr (slot_ne (Or.inr (hw _ (List.mem_of_getElem? (i := 41) rfl))) (Or.inr (hw _ (List.mem_of_getElem? (i := 33) rfl))) (by decide) (t := (.array .long)) (t' := (.array .long)) (by decide) (by decide))))) (Or.inr (slot_ne (Or.inr (hw _ (List.mem_of_getElem? (i := 41) rfl))) (Or.inr (hw _ (List.mem_of_getElem? (i := 35) rfl))) (by decide) (t := (.array .long)) (t' := (.array .long)) (by decide) (by decide))))) (Or.inr (slot_ne (Or.inr (hw _ (List.mem_of_getElem? (i := 41) rfl))) (Or.inr (hw _ (List.mem_of_getElem? (i := 37) rfl))) (by decide) (t := (.array .long)) (t' := (.array .long)) (by decide) (by decide))))) (Or.inr (slot_ne (Or.inr (hw _ (List.mem_of_getElem? (i := 41) rfl))) (Or.inr (hw _ (List.mem_of_getElem? (i := 39) rfl))) (by decide) (t := (.array .long)) (t' := (.array .long)) (by decide) (by decide)))))
  have f56 := (Exa.ext E47 f48)
  obtain ⟨T54, h54, X54, e54, W54, st54⟩ := putF X47 hx hZ hown (host := "") (Or.inl (hw _ (List.mem_of_getElem? (i := 40) rfl))) Via.refl e47 f55 f56 (Or.inr ⟨(hw _ (List.mem_of_getElem? (i := 41) rfl)), rfl, hnm⟩) (hw _ (List.mem_of_getElem? (i := 2) rfl)) (ty := (.array .long)) (by decide) rfl rfl (g := (mkF m 83 #[.val (.ref a), .val (.int (Int32.ofNat W)), .val (.int (Int32.ofNat H)), .val (.int (Int32.ofNat (W + H)))] [(.ref b47), (.ref a)])) rfl rfl (hb hby d1_83)
  have F54 := Fld.same W54 f55
  have N54 := Fr.snoc X54 N46 g_a
  have Z54 : n0 ≤ h54.size := Nat.le_trans Z47 (Keep.of_wr W54).1
  have K54 : Keep hI h54 [a] := K47.wr W54 (Or.inl (List.mem_of_getElem? (i := 0) rfl))
  refine Go.step (st54) ?_
  show Go _ _ _ _ _ _ _ T54 (mkF m 86 #[_, _, _, _] [])
  have f57 := (Exa.wr W54 f56)
  have f58 := (Fld.other W54 (Fld.ext E47 (Fld.other W43 (Fld.ext E37 (Fld.other W33 (Fld.ext E28 (Fld.other W24 (Fld.ext E20 (Fld.other W16 (Fld.ext E13 (Fld.other W8 (Fld.ext E6 (Fld.other W4 F1q1 (Or.inr (slot_ne (Or.inr (hw _ (List.mem_of_getElem? (i := 16) rfl))) (Or.inr (hw _ (List.mem_of_getElem? (i := 28) rfl))) (by decide) (t := .int) (t' := .int) (by decide) (by decide))))) (Or.inr (slot_ne (Or.inr (hw _ (List.mem_of_getElem? (i := 16) rfl))) (Or.inr (hw _ (List.mem_of_getElem? (i := 31) rfl))) (by decide) (t := .int) (t' := (.array .long)) (by decide) (by decide))))) (Or.inr (slot_ne (Or.inr (hw _ (List.mem_of_getElem? (i := 16) rfl))) (Or.inr (hw _ (List.mem_of_getElem? (i := 33) rfl))) (by decide) (t := .int) (t' := (.array .long)) (by decide) (by decide))))) (Or.inr (slot_ne (Or.inr (hw _ (List.mem_of_getElem? (i := 16) rfl))) (Or.inr (hw _ (List.mem_of_getElem? (i := 35) rfl))) (by decide) (t := .int) (t' := (.array .long)) (by decide) (by decide))))) (Or.inr (slot_ne (Or.inr (hw _ (List.mem_of_getElem? (i := 16) rfl))) (Or.inr (hw _ (List.mem_of_getElem? (i := 37) rfl))) (by decide) (t := .int) (t' := (.array .long)) (by decide) (by decide))))) (Or.inr (slot_ne (Or.inr (hw _ (List.mem_of_getElem? (i := 16) rfl))) (Or.inr (hw _ (List.mem_of_getElem? (i := 39) rfl))) (by decide) (t := .int) (t' := (.array .long)) (by decide) (by decide))))) (Or.inr (slot_ne (Or.inr (hw _ (List.mem_of_getElem? (i := 16) rfl))) (Or.inr (hw _ (List.mem_of_getElem? (i := 41) rfl))) (by decide) (t := .int) (t' := (.array .long)) (by decide) (by decide))))
  have f59 := (Fld.other W54 (Fld.ext E47 (Fld.other W43 (Fld.ext E37 (Fld.other W33 (Fld.ext E28 (Fld.other W24 (Fld.ext E20 (Fld.other W16 (Fld.ext E13 (Fld.other W8 (Fld.ext E6 (Fld.other W4 F1q2 (Or.inr (slot_ne (Or.inr (hw _ (List.mem_of_getElem? (i := 18) rfl))) (Or.inr (hw _ (List.mem_of_getElem? (i := 28) rfl))) (by decide) (t := .int) (t' := .int) (by decide) (by decide))))) (Or.inr (slot_ne (Or.inr (hw _ (List.mem_of_getElem? (i := 18) rfl))) (Or.inr (hw _ (List.mem_of_getElem? (i := 31) rfl))) (by decide) (t := .int) (t' := (.array .long)) (by decide) (by decide))))) (Or.inr (slot_ne (Or.inr (hw _ (List.mem_of_getElem? (i := 18) rfl))) (Or.inr (hw _ (List.mem_of_getElem? (i := 33) rfl))) (by decide) (t := .int) (t' := (.array .long)) (by decide) (by decide))))) (Or.inr (slot_ne (Or.inr (hw _ (List.mem_of_getElem? (i := 18) rfl))) (Or.inr (hw _ (List.mem_of_getElem? (i := 35) rfl))) (by decide) (t := .int) (t' := (.array .long)) (by decide) (by decide))))) (Or.inr (slot_ne (Or.inr (hw _ (List.mem_of_getElem? (i := 18) rfl))) (Or.inr (hw _ (List.mem_of_getElem? (i := 37) rfl))) (by decide) (t := .int) (t' := (.array .long)) (by decide) (by decide))))) (Or.inr (slot_ne (Or.inr (hw _ (List.mem_of_getElem? (i := 18) rfl))) (Or.inr (hw _ (List.mem_of_getElem? (i := 39) rfl))) (by decide) (t := .int) (t' := (.array .long)) (by decide) (by decide))))) (Or.inr (slot_ne (Or.inr (hw _ (List.mem_of_getElem? (i := 18) rfl))) (Or.inr (hw _ (List.mem_of_getElem? (i := 41) rfl))) (by decide) (t := .int) (t' := (.array .long)) (by decide) (by decide))))
  have f60 := (Fld.other W54 (Fld.ext E47 (Fld.other W43 (Fld.ext E37 (Fld.other W33 (Fld.ext E28 (Fld.other W24 (Fld.ext E20 (Fld.other W16 (Fld.ext E13 (Fld.other W8 (Fld.ext E6 (Fld.other W4 F1q3 (Or.inr (slot_ne (Or.inl (hw _ (List.mem_of_getElem? (i := 86) rfl))) (Or.inr (hw _ (List.mem_of_getElem? (i := 28) rfl))) (by decide) (t := .long) (t' := .int) (by decide) (by decide))))) (Or.inr (slot_ne (Or.inl (hw _ (List.mem_of_getElem? (i := 86) rfl))) (Or.inr (hw _ (List.mem_of_getElem? (i := 31) rfl))) (by decide) (t := .long) (t' := (.array .long)) (by decide) (by decide))))) (Or.inr (slot_ne (Or.inl (hw _ (List.mem_of_getElem? (i := 86) rfl))) (Or.inr (hw _ (List.mem_of_getElem? (i := 33) rfl))) (by decide) (t := .long) (t' := (.array .long)) (by decide) (by decide))))) (Or.inr (slot_ne (Or.inl (hw _ (List.mem_of_getElem? (i := 86) rfl))) (Or.inr (hw _ (List.mem_of_getElem? (i := 35) rfl))) (by decide) (t := .long) (t' := (.array .long)) (by decide) (by decide))))) (Or.inr (slot_ne (Or.inl (hw _ (List.mem_of_getElem? (i := 86) rfl))) (Or.inr (hw _ (List.mem_of_getElem? (i := 37) rfl))) (by decide) (t := .long) (t' := (.array .long)) (by decide) (by decide))))) (Or.inr (slot_ne (Or.inl (hw _ (List.mem_of_getElem? (i := 86) rfl))) (Or.inr (hw _ (List.mem_of_getElem? (i := 39) rfl))) (by decide) (t := .long) (t' := (.array .long)) (by decide) (by decide))))) (Or.inr (slot_ne (Or.inl (hw _ (List.mem_of_getElem? (i := 86) rfl))) (Or.inr (hw _ (List.mem_of_getElem? (i := 41) rfl))) (by decide) (t := .long) (t' := (.array .long)) (by decide) (by decide))))
  have f61 := (Fld.other W54 (Fld.ext E47 (Fld.other W43 (Fld.ext E37 (Fld.other W33 (Fld.ext E28 (Fld.other W24 (Fld.ext E20 (Fld.other W16 (Fld.ext E13 (Fld.other W8 (Fld.ext E6 (Fld.other W4 F1q4 (Or.inr (slot_ne (Or.inl (hw _ (List.mem_of_getElem? (i := 88) rfl))) (Or.inr (hw _ (List.mem_of_getElem? (i := 28) rfl))) (by decide) (t := .int) (t' := .int) (by decide) (by decide))))) (Or.inr (slot_ne (Or.inl (hw _ (List.mem_of_getElem? (i := 88) rfl))) (Or.inr (hw _ (List.mem_of_getElem? (i := 31) rfl))) (by decide) (t := .int) (t' := (.array .long)) (by decide) (by decide))))) (Or.inr (slot_ne (Or.inl (hw _ (List.mem_of_getElem? (i := 88) rfl))) (Or.inr (hw _ (List.mem_of_getElem? (i := 33) rfl))) (by decide) (t := .int) (t' := (.array .long)) (by decide) (by decide))))) (Or.inr (slot_ne (Or.inl (hw _ (List.mem_of_getElem? (i := 88) rfl))) (Or.inr (hw _ (List.mem_of_getElem? (i := 35) rfl))) (by decide) (t := .int) (t' := (.array .long)) (by decide) (by decide))))) (Or.inr (slot_ne (Or.inl (hw _ (List.mem_of_getElem? (i := 88) rfl))) (Or.inr (hw _ (List.mem_of_getElem? (i := 37) rfl))) (by decide) (t := .int) (t' := (.array .long)) (by decide) (by decide))))) (Or.inr (slot_ne (Or.inl (hw _ (List.mem_of_getElem? (i := 88) rfl))) (Or.inr (hw _ (List.mem_of_getElem? (i := 39) rfl))) (by decide) (t := .int) (t' := (.array .long)) (by decide) (by decide))))) (Or.inr (slot_ne (Or.inl (hw _ (List.mem_of_getElem? (i := 88) rfl))) (Or.inr (hw _ (List.mem_of_getElem? (i := 41) rfl))) (by decide) (t := .int) (t' := (.array .long)) (by decide) (by decide))))
  have f62 := (Fld.other W54 (Fld.ext E47 (Fld.other W43 (Fld.ext E37 (Fld.other W33 (Fld.ext E28 (Fld.other W24 (Fld.ext E20 (Fld.other W16 (Fld.ext E13 (Fld.other W8 (Fld.ext E6 (Fld.other W4 F1q12 (Or.inr (slot_ne (Or.inl (hw _ (List.mem_of_getElem? (i := 95) rfl))) (Or.inr (hw _ (List.mem_of_getElem? (i := 28) rfl))) (by decide) (t := (.object "com/example/gridwright/gridwright/engine/Grid")) (t' := .int) (by decide) (by decide))))) (Or.inr (slot_ne (Or.inl (hw _ (List.mem_of_getElem? (i := 95) rfl))) (Or.inr (hw _ (List.mem_of_getElem? (i := 31) rfl))) (by decide) (t := (.object "com/example/gridwright/gridwright/engine/Grid")) (t' := (.array .long)) (by decide) (by decide))))) (Or.inr (slot_ne (Or.inl (hw _ (List.mem_of_getElem? (i := 95) rfl))) (Or.inr (hw _ (List.mem_of_getElem? (i := 33) rfl))) (by decide) (t := (.object "com/example/gridwright/gridwright/engine/Grid")) (t' := (.array .long)) (by decide) (by decide))))) (Or.inr (slot_ne (Or.inl (hw _ (List.mem_of_getElem? (i := 95) rfl))) (Or.inr (hw _ (List.mem_of_getElem? (i := 35) rfl))) (by decide) (t := (.object "com/example/gridwright/gridwright/engine/Grid")) (t' := (.array .long)) (by decide) (by decide))))) (Or.inr (slot_ne (Or.inl (hw _ (List.mem_of_getElem? (i := 95) rfl))) (Or.inr (hw _ (List.mem_of_getElem? (i := 37) rfl))) (by decide) (t := (.object "com/example/gridwright/gridwright/engine/Grid")) (t' := (.array .long)) (by decide) (by decide))))) (Or.inr (slot_ne (Or.inl (hw _ (List.mem_of_getElem? (i := 95) rfl))) (Or.inr (hw _ (List.mem_of_getElem? (i := 39) rfl))) (by decide) (t := (.object "com/example/gridwright/gridwright/engine/Grid")) (t' := (.array .long)) (by decide) (by decide))))) (Or.inr (slot_ne (Or.inl (hw _ (List.mem_of_getElem? (i := 95) rfl))) (Or.inr (hw _ (List.mem_of_getElem? (i := 41) rfl))) (by decide) (t := (.object "com/example/gridwright/gridwright/engine/Grid")) (t' := (.array .long)) (by decide) (by decide))))
  have f63 := (Fld.other W54 (Fld.ext E47 (Fld.other W43 (Fld.ext E37 (Fld.other W33 (Fld.ext E28 F24) (Or.inr (slot_ne (Or.inr (hw _ (List.mem_of_getElem? (i := 35) rfl))) (Or.inr (hw _ (List.mem_of_getElem? (i := 37) rfl))) (by decide) (t := (.array .long)) (t' := (.array .long)) (by decide) (by decide))))) (Or.inr (slot_ne (Or.inr (hw _ (List.mem_of_getElem? (i := 35) rfl))) (Or.inr (hw _ (List.mem_of_getElem? (i := 39) rfl))) (by decide) (t := (.array .long)) (t' := (.array .long)) (by decide) (by decide))))) (Or.inr (slot_ne (Or.inr (hw _ (List.mem_of_getElem? (i := 35) rfl))) (Or.inr (hw _ (List.mem_of_getElem? (i := 41) rfl))) (by decide) (t := (.array .long)) (t' := (.array .long)) (by decide) (by decide))))
  have f64 := (Fld.other W54 (Fld.ext E47 (Fld.other W43 (Fld.ext E37 F33) (Or.inr (slot_ne (Or.inr (hw _ (List.mem_of_getElem? (i := 37) rfl))) (Or.inr (hw _ (List.mem_of_getElem? (i := 39) rfl))) (by decide) (t := (.array .long)) (t' := (.array .long)) (by decide) (by decide))))) (Or.inr (slot_ne (Or.inr (hw _ (List.mem_of_getElem? (i := 37) rfl))) (Or.inr (hw _ (List.mem_of_getElem? (i := 41) rfl))) (by decide) (t := (.array .long)) (t' := (.array .long)) (by decide) (by decide))))
  have f65 := (Fld.other W54 (Fld.ext E47 F43) (Or.inr (slot_ne (Or.inr (hw _ (List.mem_of_getElem? (i := 39) rfl))) (Or.inr (hw _ (List.mem_of_getElem? (i := 41) rfl))) (by decide) (t := (.array .long)) (t' := (.array .long)) (by decide) (by decide))))
  have f66 := (Fld.other W54 (Fld.ext E47 (Fld.other W43 (Fld.ext E37 (Fld.other W33 (Fld.ext E28 (Fld.other W24 (Fld.ext E20 (Fld.other W16 (Fld.ext E13 (Fld.other W8 (Fld.ext E6 (Fld.other W4 F1q13 (Or.inr (slot_ne (Or.inl (hw _ (List.mem_of_getElem? (i := 107) rfl))) (Or.inr (hw _ (List.mem_of_getElem? (i := 28) rfl))) (by decide) (t := .boolean) (t' := .int) (by decide) (by decide))))) (Or.inr (slot_ne (Or.inl (hw _ (List.mem_of_getElem? (i := 107) rfl))) (Or.inr (hw _ (List.mem_of_getElem? (i := 31) rfl))) (by decide) (t := .boolean) (t' := (.array .long)) (by decide) (by decide))))) (Or.inr (slot_ne (Or.inl (hw _ (List.mem_of_getElem? (i := 107) rfl))) (Or.inr (hw _ (List.mem_of_getElem? (i := 33) rfl))) (by decide) (t := .boolean) (t' := (.array .long)) (by decide) (by decide))))) (Or.inr (slot_ne (Or.inl (hw _ (List.mem_of_getElem? (i := 107) rfl))) (Or.inr (hw _ (List.mem_of_getElem? (i := 35) rfl))) (by decide) (t := .boolean) (t' := (.array .long)) (by decide) (by decide))))) (Or.inr (slot_ne (Or.inl (hw _ (List.mem_of_getElem? (i := 107) rfl))) (Or.inr (hw _ (List.mem_of_getElem? (i := 37) rfl))) (by decide) (t := .boolean) (t' := (.array .long)) (by decide) (by decide))))) (Or.inr (slot_ne (Or.inl (hw _ (List.mem_of_getElem? (i := 107) rfl))) (Or.inr (hw _ (List.mem_of_getElem? (i := 39) rfl))) (by decide) (t := .boolean) (t' := (.array .long)) (by decide) (by decide))))) (Or.inr (slot_ne (Or.inl (hw _ (List.mem_of_getElem? (i := 107) rfl))) (Or.inr (hw _ (List.mem_of_getElem? (i := 41) rfl))) (by decide) (t := .boolean) (t' := (.array .long)) (by decide) (by decide))))
  have f67 := (Fld.other W54 (Fld.ext E47 (Fld.other W43 (Fld.ext E37 (Fld.other W33 (Fld.ext E28 (Fld.other W24 (Fld.ext E20 (Fld.other W16 (Fld.ext E13 (Fld.other W8 (Fld.ext E6 (Fld.other W4 F1q14 (Or.inr (slot_ne (Or.inl (hw _ (List.mem_of_getElem? (i := 109) rfl))) (Or.inr (hw _ (List.mem_of_getElem? (i := 28) rfl))) (by decide) (t := .int) (t' := .int) (by decide) (by decide))))) (Or.inr (slot_ne (Or.inl (hw _ (List.mem_of_getElem? (i := 109) rfl))) (Or.inr (hw _ (List.mem_of_getElem? (i := 31) rfl))) (by decide) (t := .int) (t' := (.array .long)) (by decide) (by decide))))) (Or.inr (slot_ne (Or.inl (hw _ (List.mem_of_getElem? (i := 109) rfl))) (Or.inr (hw _ (List.mem_of_getElem? (i := 33) rfl))) (by decide) (t := .int) (t' := (.array .long)) (by decide) (by decide))))) (Or.inr (slot_ne (Or.inl (hw _ (List.mem_of_getElem? (i := 109) rfl))) (Or.inr (hw _ (List.mem_of_getElem? (i := 35) rfl))) (by decide) (t := .int) (t' := (.array .long)) (by decide) (by decide))))) (Or.inr (slot_ne (Or.inl (hw _ (List.mem_of_getElem? (i := 109) rfl))) (Or.inr (hw _ (List.mem_of_getElem? (i := 37) rfl))) (by decide) (t := .int) (t' := (.array .long)) (by decide) (by decide))))) (Or.inr (slot_ne (Or.inl (hw _ (List.mem_of_getElem? (i := 109) rfl))) (Or.inr (hw _ (List.mem_of_getElem? (i := 39) rfl))) (by decide) (t := .int) (t' := (.array .long)) (by decide) (by decide))))) (Or.inr (slot_ne (Or.inl (hw _ (List.mem_of_getElem? (i := 109) rfl))) (Or.inr (hw _ (List.mem_of_getElem? (i := 41) rfl))) (by decide) (t := .int) (t' := (.array .long)) (by decide) (by decide))))
  have f68 := (((((((V20.other W24 (Ne.symm ne_a_b20)).ext E28).other W33 (Ne.symm ne_a_b20)).ext E37).other W43 (Ne.symm ne_a_b20)).ext E47).other W54 (Ne.symm ne_a_b20))
  have f69 := (((((V28.other W33 (Ne.symm ne_a_b28)).ext E37).other W43 (Ne.symm ne_a_b28)).ext E47).other W54 (Ne.symm ne_a_b28))
  have f70 := (((V37.other W43 (Ne.symm ne_a_b37)).ext E47).other W54 (Ne.symm ne_a_b37))
  have f71 := (V47.other W54 (Ne.symm ne_a_b47))
  refine go_ret X54 hx hret hlk (hb hby d1_86) ?_ (by decide) (by decide)
  try rw [e54]
  exact ⟨b20, b28, b37, b47, rfl, N54, eI ▸ K54, ⟨eI ▸ sz_b20, eI ▸ sz_b28, eI ▸ sz_b37, eI ▸ sz_b47⟩, ⟨ne_b20_b28, ne_b20_b37, ne_b20_b47, ne_b28_b37, ne_b28_b47, ne_b37_b47⟩, f57, f58, f59, f60, f61, f62, f63, f64, f65, F54, f66, f67, f68, f69, f70, f71⟩
theorem ef_rmFi (m : MethodId) (x0 : Addr) (x1 : Int64) : entryFrame m #[(.ref x0), (.long x1)] 5 = mkF m 0 #[.val (.ref x0), .val (.long x1), .second, .unset, .unset] [] := by first | (simp [entryFrame, mkF, argsToLocals, Value.category]; done) | rfl
theorem pn_5 : plainName "java/util/Arrays" = true := by first | (simp [plainName, overriddenIn]; done) | decide +kernel
theorem d13_0 : decode jdk_65_method_101_code 0 = .ok (.iconst 0, 1) := by decide +kernel
theorem d13_1 : decode jdk_65_method_101_code 1 = .ok (.istore_n 3, 1) := by decide +kernel
theorem d13_2 : decode jdk_65_method_101_code 2 = .ok (.aload_n 0, 1) := by decide +kernel
theorem d13_3 : decode jdk_65_method_101_code 3 = .ok (.arraylength, 1) := by decide +kernel
theorem d13_4 : decode jdk_65_method_101_code 4 = .ok (.istore 4, 2) := by decide +kernel
theorem d13_6 : decode jdk_65_method_101_code 6 = .ok (.iload_n 3, 1) := by decide +kernel
theorem d13_7 : decode jdk_65_method_101_code 7 = .ok (.iload 4, 2) := by decide +kernel
theorem d13_9 : decode jdk_65_method_101_code 9 = .ok (.if_icmp .ge 13, 3) := by decide +kernel
theorem d13_22 : decode jdk_65_method_101_code 22 = .ok (.return_, 1) := by decide +kernel
theorem d13_12 : decode jdk_65_method_101_code 12 = .ok (.aload_n 0, 1) := by decide +kernel
theorem d13_13 : decode jdk_65_method_101_code 13 = .ok (.iload_n 3, 1) := by decide +kernel
theorem d13_14 : decode jdk_65_method_101_code 14 = .ok (.lload_n 1, 1) := by decide +kernel
theorem d13_15 : decode jdk_65_method_101_code 15 = .ok (.lastore, 1) := by decide +kernel
theorem d13_16 : decode jdk_65_method_101_code 16 = .ok (.iinc 3 1, 3) := by decide +kernel
theorem d13_19 : decode jdk_65_method_101_code 19 = .ok (.goto (-13), 3) := by decide +kernel
set_option maxRecDepth 65536 in
set_option maxHeartbeats 40000000 in
theorem rmFi (l : Launch) (Z : State) (a0 : Array Value) (hw : ∀ d ∈ tables_1, d.before a0 Z = true) (ws : List Jvm.Cond) (x : Addr) (n : Nat) (h0 : Heap) (n0 : Nat) (Z0 : n0 ≤ h0.size) (V_x : AV Z h0 x .long n (lv w0)) (g_x : n0 ≤ x) (hn : n ≤ 2) :
    Ctr l Z (⟨"java/util/Arrays", "fill", "([JJ)V"⟩ : MethodName) jdk_65_method_101_code 5 none ws ({ frames := 0, cells := 0, slots := 0, locals := 0 } : Room) 0 0 #[(.ref x), (.long (0 : Int64))] h0 (fun v h L => v = none ∧ Fr n0 L ∧ Keep h0 h [x] ∧ AV Z h x .long n (lv w0)) := by
  refine Ctr.mk (plainFor_of_name pn_5) fun p e s m below meth c T0 X0 C e0 => go_cast (ef_rmFi m x (0 : Int64)) ?_
  have N0 := Fr.nil n0
  obtain ⟨hx, hZ, hby, hml, hown, hnm, hret, hlk⟩ := C
  obtain ⟨hI, eI⟩ : ∃ z, z = h0 := ⟨_, rfl⟩
  have K0 : Keep hI h0 [x] := by rw [eI]; exact Keep.refl _ _
  show Go _ _ _ _ _ _ _ T0 (mkF m 0 #[.val (.ref x), .val (.long (0 : Int64)), .second, .unset, .unset] [])
  refine Go.step (fun tt kk => XS.iconst X0.here hx rfl (hb hby d13_0) kk) ?_
  show Go _ _ _ _ _ _ _ T0 (mkF m 1 #[_, _, _, _, _] [(.int (0 : Int32))])
  refine Go.step (fun tt kk => XS.istoreN X0.here hx rfl (hb hby d13_1) rfl (l' := #[.val (.ref x), .val (.long (0 : Int64)), .second, .val (.int (0 : Int32)), .unset]) rfl kk) ?_
  show Go _ _ _ _ _ _ _ T0 (mkF m 2 #[_, _, _, _, _] [])
  refine Go.step (fun tt kk => XS.aloadN X0.here hx rfl (hb hby d13_2) rfl rfl kk) ?_
  show Go _ _ _ _ _ _ _ T0 (mkF m 3 #[_, _, _, _, _] [(.ref x)])
  refine Go.step (a_len X0 hx hZ e0 V_x (z := (Int32.ofNat n)) (Int32.toInt_ofNat_of_lt (by omega)) (hb hby d13_3)) ?_
  show Go _ _ _ _ _ _ _ T0 (mkF m 4 #[_, _, _, _, _] [(.int (Int32.ofNat n))])
  refine Go.step (fun tt kk => XS.istore X0.here hx rfl (hb hby d13_4) rfl (l' := #[.val (.ref x), .val (.long (0 : Int64)), .second, .val (.int (0 : Int32)), .val (.int (Int32.ofNat n))]) rfl kk) ?_
  show Go _ _ _ _ _ _ _ T0 (mkF m 6 #[_, _, _, _, _] [])
  have lp6 : ∀ (u : Nat)  (T6_lp : State) (lc6_lp : List Loc) (hh6_lp : Heap) (X6_lp : Stand p l e ({ frames := 0, cells := 0, slots := 0, locals := 0 } : Room) s m #[(.ref x), (.long (0 : Int64))] below meth c T6_lp lc6_lp 0 0) (e6_lp : T6_lp.heap = hh6_lp) (N6_lp : Fr n0 lc6_lp) (Z6_lp : n0 ≤ hh6_lp.size) (K6_lp : Keep hI hh6_lp [x]) (f6_lp_0 : AV Z hh6_lp x .long n (lv w0)) (hu : u ≤ n),
      Go p e s below 0 0 (fun v h L => v = none ∧ Fr n0 L ∧ Keep h0 h [x] ∧ AV Z h x .long n (lv w0)) T6_lp (mkF m 6 #[.val (.ref x), .val (.long (0 : Int64)), .second, .val (.int (Int32.ofNat (n - u))), .val (.int (Int32.ofNat n))] []) := by
    intro u
    induction u with
    | zero =>
      intro  T6_lp lc6_lp hh6_lp X6_lp e6_lp N6_lp Z6_lp K6_lp f6_lp_0 hu
      show Go _ _ _ _ _ _ _ T6_lp (mkF m 6 #[.val (.ref x), .val (.long (0 : Int64)), .second, .val (.int (Int32.ofNat n)), .val (.int (Int32.ofNat n))] [])
      refine Go.step (fun tt kk => XS.iloadN X6_lp.here hx rfl (hb hby d13_6) rfl kk) ?_
      show Go _ _ _ _ _ _ _ T6_lp (mkF m 7 #[_, _, _, _, _] [(.int (Int32.ofNat n))])
      refine Go.step (fun tt kk => XS.iload X6_lp.here hx rfl (hb hby d13_7) rfl kk) ?_
      show Go _ _ _ _ _ _ _ T6_lp (mkF m 9 #[_, _, _, _, _] [(.int (Int32.ofNat n)), (.int (Int32.ofNat n))])
      refine Go.step (fun tt kk => XS.icmpYes X6_lp.here hx rfl (pc0 := 9) (pc' := 22) rfl (hb hby d13_9) rfl (flt (mt (own_lt n n (by omega) (by omega)).mp (Nat.lt_irrefl _))).2.1 (by decide) (by decide) kk) ?_
      show Go _ _ _ _ _ _ _ T6_lp (mkF m 22 #[_, _, _, _, _] [])
      refine go_ret X6_lp hx hret hlk (hb hby d13_22) ?_ (by decide) (by decide)
      try rw [e6_lp]
      exact ⟨rfl, N6_lp, eI ▸ K6_lp, f6_lp_0⟩
    | succ u ih =>
      intro  T6_lp lc6_lp hh6_lp X6_lp e6_lp N6_lp Z6_lp K6_lp f6_lp_0 hu
      show Go _ _ _ _ _ _ _ T6_lp (mkF m 6 #[.val (.ref x), .val (.long (0 : Int64)), .second, .val (.int (Int32.ofNat (n - (u + 1)))), .val (.int (Int32.ofNat n))] [])
      refine Go.step (fun tt kk => XS.iloadN X6_lp.here hx rfl (hb hby d13_6) rfl kk) ?_
      show Go _ _ _ _ _ _ _ T6_lp (mkF m 7 #[_, _, _, _, _] [(.int (Int32.ofNat (n - (u + 1))))])
      refine Go.step (fun tt kk => XS.iload X6_lp.here hx rfl (hb hby d13_7) rfl kk) ?_
      show Go _ _ _ _ _ _ _ T6_lp (mkF m 9 #[_, _, _, _, _] [(.int (Int32.ofNat n)), (.int (Int32.ofNat (n - (u + 1))))])
      refine Go.step (fun tt kk => XS.icmpNo X6_lp.here hx rfl (hb hby d13_9) rfl (tlt ((own_lt (n - (u + 1)) n (by omega) (by omega)).mpr (by omega))).2.1 kk) ?_
      show Go _ _ _ _ _ _ _ T6_lp (mkF m 12 #[_, _, _, _, _] [])
      refine Go.step (fun tt kk => XS.aloadN X6_lp.here hx rfl (hb hby d13_12) rfl rfl kk) ?_
      show Go _ _ _ _ _ _ _ T6_lp (mkF m 13 #[_, _, _, _, _] [(.ref x)])
      refine Go.step (fun tt kk => XS.iloadN X6_lp.here hx rfl (hb hby d13_13) rfl kk) ?_
      show Go _ _ _ _ _ _ _ T6_lp (mkF m 14 #[_, _, _, _, _] [(.int (Int32.ofNat (n - (u + 1)))), (.ref x)])
      refine Go.step (fun tt kk => XS.lloadN X6_lp.here hx rfl (hb hby d13_14) rfl kk) ?_
      show Go _ _ _ _ _ _ _ T6_lp (mkF m 15 #[_, _, _, _, _] [(.long (0 : Int64)), (.int (Int32.ofNat (n - (u + 1)))), (.ref x)])
      obtain ⟨cl1, Ar1, hin1, -⟩ := f6_lp_0.at (j := (Int32.ofNat (n - (u + 1)))) (k := (n - (u + 1))) (Int32.toInt_ofNat_of_lt (by omega)) (by omega)
      obtain ⟨T1, h1, X1, e1, W1, st1⟩ := stJ X6_lp hx hZ e6_lp Ar1 (j := (Int32.ofNat (n - (u + 1)))) hin1 (g := (mkF m 15 #[.val (.ref x), .val (.long (0 : Int64)), .second, .val (.int (Int32.ofNat (n - (u + 1)))), .val (.int (Int32.ofNat n))] [(.long (0 : Int64)), (.int (Int32.ofNat (n - (u + 1)))), (.ref x)])) rfl rfl (hb hby d13_15)
      have V1 : AV Z h1 x .long n (upd (lv w0) (n - (u + 1)) (.long (0 : Int64))) := AV.set f6_lp_0 (k := (n - (u + 1))) (Int32.toInt_ofNat_of_lt (by omega)) (by omega) W1
      have N1 := Fr.snoc X1 N6_lp g_x
      have Z1 : n0 ≤ h1.size := Nat.le_trans Z6_lp (Keep.of_wr W1).1
      have K1 : Keep hI h1 [x] := K6_lp.wr W1 (Or.inl (List.mem_of_getElem? (i := 0) rfl))
      refine Go.step (st1) ?_
      show Go _ _ _ _ _ _ _ T1 (mkF m 16 #[_, _, _, _, _] [])
      refine Go.step (fun tt kk => XS.iinc X1.here hx rfl (hb hby d13_16) rfl (l' := #[.val (.ref x), .val (.long (0 : Int64)), .second, .val (.int ((Int32.ofNat (n - (u + 1))) + (1 : Int32))), .val (.int (Int32.ofNat n))]) rfl kk) ?_
      show Go _ _ _ _ _ _ _ T1 (mkF m 19 #[_, _, _, _, _] [])
      rw [own_up n u (by omega)]
      show Go _ _ _ _ _ _ _ T1 (mkF m 19 #[.val (.ref x), .val (.long (0 : Int64)), .second, .val (.int (Int32.ofNat (n - u))), .val (.int (Int32.ofNat n))] [])
      refine Go.step (fun tt kk => XS.goto X1.here hx rfl (pc0 := 19) (pc' := 6) rfl (hb hby d13_19) (by decide) (by decide) kk) ?_
      show Go _ _ _ _ _ _ _ T1 (mkF m 6 #[_, _, _, _, _] [])
      have V2 : AV Z h1 x .long n (lv w0) := V1.congr fun i hi => by
        by_cases q : i = n - (u + 1)
        · subst q; exact upd_eq
        · exact upd_ne q
      exact ih  _ _ _ (X1.more (by decide) (by decide)) e1 N1 Z1 K1 V2 (by omega)
  have qlp6 := lp6 n  _ _ _ (X0.more (by decide) (by decide)) e0 N0 Z0 K0 V_x (Nat.le_refl _)
  rw [Nat.sub_self] at qlp6
  exact qlp6
theorem ef_rmCl (m : MethodId) (x0 : Addr) (x1 : Addr) (x2 : Int32) : entryFrame m #[(.ref x0), (.ref x1), (.int x2)] 7 = mkF m 0 #[.val (.ref x0), .val (.ref x1), .val (.int x2), .unset, .unset, .unset, .unset] [] := by first | (simp [entryFrame, mkF, argsToLocals, Value.category]; done) | rfl
theorem d12_0 : decode prog_61_method_10_code 0 = .ok (.iconst 0, 1) := by decide +kernel
theorem d12_1 : decode prog_61_method_10_code 1 = .ok (.istore_n 3, 1) := by decide +kernel
theorem d12_2 : decode prog_61_method_10_code 2 = .ok (.iload_n 3, 1) := by decide +kernel
theorem d12_3 : decode prog_61_method_10_code 3 = .ok (.aload_n 1, 1) := by decide +kernel
theorem d12_4 : decode prog_61_method_10_code 4 = .ok (.arraylength, 1) := by decide +kernel
theorem d12_5 : decode prog_61_method_10_code 5 = .ok (.if_icmp .ge 90, 3) := by decide +kernel
theorem d12_8 : decode prog_61_method_10_code 8 = .ok (.aload_n 1, 1) := by decide +kernel
theorem d12_9 : decode prog_61_method_10_code 9 = .ok (.iload_n 3, 1) := by decide +kernel
theorem d12_10 : decode prog_61_method_10_code 10 = .ok (.laload, 1) := by decide +kernel
theorem d12_11 : decode prog_61_method_10_code 11 = .ok (.lstore 4, 2) := by decide +kernel
theorem d12_13 : decode prog_61_method_10_code 13 = .ok (.lload 4, 2) := by decide +kernel
theorem d12_15 : decode prog_61_method_10_code 15 = .ok (.lconst 0, 1) := by decide +kernel
theorem d12_16 : decode prog_61_method_10_code 16 = .ok (.lcmp, 1) := by decide +kernel
theorem d12_17 : decode prog_61_method_10_code 17 = .ok (.ifCond .eq 68, 3) := by decide +kernel
theorem d12_85 : decode prog_61_method_10_code 85 = .ok (.aload_n 1, 1) := by decide +kernel
theorem d12_86 : decode prog_61_method_10_code 86 = .ok (.iload_n 3, 1) := by decide +kernel
theorem d12_87 : decode prog_61_method_10_code 87 = .ok (.lconst 0, 1) := by decide +kernel
theorem d12_88 : decode prog_61_method_10_code 88 = .ok (.lastore, 1) := by decide +kernel
theorem d12_89 : decode prog_61_method_10_code 89 = .ok (.iinc 3 1, 3) := by decide +kernel
theorem d12_92 : decode prog_61_method_10_code 92 = .ok (.goto (-90), 3) := by decide +kernel
theorem d12_95 : decode prog_61_method_10_code 95 = .ok (.return_, 1) := by decide +kernel
set_option maxRecDepth 65536 in
set_option maxHeartbeats 40000000 in
theorem rmCl (l : Launch) (Z : State) (a0 : Array Value) (hw : ∀ d ∈ tables_1, d.before a0 Z = true) (ws : List Jvm.Cond) (a x : Addr) (n : Nat) (y : Int32) (h0 : Heap) (n0 : Nat) (Z0 : n0 ≤ h0.size) (V_x : AV Z h0 x .long n (lv w0)) (g_x : n0 ≤ x) (hn1 : 1 ≤ n) (hn : n ≤ 2) :
    Ctr l Z (⟨"com/example/gridwright/gridwright/engine/LargeDraft", "clear", "([JI)V"⟩ : MethodName) prog_61_method_10_code 7 none ws ({ frames := 0, cells := 0, slots := 0, locals := 0 } : Room) 0 0 #[(.ref a), (.ref x), (.int y)] h0 (fun v h L => v = none ∧ Fr n0 L ∧ Keep h0 h [x] ∧ AV Z h x .long n (lv w0)) := by
  refine Ctr.mk (plainFor_of_name pn_4) fun p e s m below meth c T0 X0 C e0 => go_cast (ef_rmCl m a x y) ?_
  have N0 := Fr.nil n0
  obtain ⟨hx, hZ, hby, hml, hown, hnm, hret, hlk⟩ := C
  obtain ⟨hI, eI⟩ : ∃ z, z = h0 := ⟨_, rfl⟩
  have K0 : Keep hI h0 [x] := by rw [eI]; exact Keep.refl _ _
  show Go _ _ _ _ _ _ _ T0 (mkF m 0 #[.val (.ref a), .val (.ref x), .val (.int y), .unset, .unset, .unset, .unset] [])
  refine Go.step (fun tt kk => XS.iconst X0.here hx rfl (hb hby d12_0) kk) ?_
  show Go _ _ _ _ _ _ _ T0 (mkF m 1 #[_, _, _, _, _, _, _] [(.int (0 : Int32))])
  refine Go.step (fun tt kk => XS.istoreN X0.here hx rfl (hb hby d12_1) rfl (l' := #[.val (.ref a), .val (.ref x), .val (.int y), .val (.int (0 : Int32)), .unset, .unset, .unset]) rfl kk) ?_
  show Go _ _ _ _ _ _ _ T0 (mkF m 2 #[_, _, _, _, _, _, _] [])
  refine Go.step (fun tt kk => XS.iloadN X0.here hx rfl (hb hby d12_2) rfl kk) ?_
  show Go _ _ _ _ _ _ _ T0 (mkF m 3 #[_, _, _, _, _, _, _] [(.int (0 : Int32))])
  refine Go.step (fun tt kk => XS.aloadN X0.here hx rfl (hb hby d12_3) rfl rfl kk) ?_
  show Go _ _ _ _ _ _ _ T0 (mkF m 4 #[_, _, _, _, _, _, _] [(.ref x), (.int (0 : Int32))])
  refine Go.step (a_len X0 hx hZ e0 V_x (z := (Int32.ofNat n)) (Int32.toInt_ofNat_of_lt (by omega)) (hb hby d12_4)) ?_
  show Go _ _ _ _ _ _ _ T0 (mkF m 5 #[_, _, _, _, _, _, _] [(.int (Int32.ofNat n)), (.int (0 : Int32))])
  refine Go.step (fun tt kk => XS.icmpNo X0.here hx rfl (hb hby d12_5) rfl (tlt ((own_lt 0 n (by omega) (by omega)).mpr (by omega))).2.1 kk) ?_
  show Go _ _ _ _ _ _ _ T0 (mkF m 8 #[_, _, _, _, _, _, _] [])
  refine Go.step (fun tt kk => XS.aloadN X0.here hx rfl (hb hby d12_8) rfl rfl kk) ?_
  show Go _ _ _ _ _ _ _ T0 (mkF m 9 #[_, _, _, _, _, _, _] [(.ref x)])
  refine Go.step (fun tt kk => XS.iloadN X0.here hx rfl (hb hby d12_9) rfl kk) ?_
  show Go _ _ _ _ _ _ _ T0 (mkF m 10 #[_, _, _, _, _, _, _] [(.int (0 : Int32)), (.ref x)])
  refine Go.step (a_jload X0 hx hZ e0 V_x (k := 0) (by decide) (by omega) (x := (0 : Int64)) rfl (hb hby d12_10)) ?_
  show Go _ _ _ _ _ _ _ T0 (mkF m 11 #[_, _, _, _, _, _, _] [(.long (0 : Int64))])
  refine Go.step (fun tt kk => XS.lstore X0.here hx rfl (hb hby d12_11) rfl (l' := #[.val (.ref a), .val (.ref x), .val (.int y), .val (.int (0 : Int32)), .val (.long (0 : Int64)), .second, .unset]) rfl kk) ?_
  show Go _ _ _ _ _ _ _ T0 (mkF m 13 #[_, _, _, _, _, _, _] [])
  refine Go.step (fun tt kk => XS.lload X0.here hx rfl (hb hby d12_13) rfl kk) ?_
  show Go _ _ _ _ _ _ _ T0 (mkF m 15 #[_, _, _, _, _, _, _] [(.long (0 : Int64))])
  refine Go.step (fun tt kk => XS.lconst X0.here hx rfl (hb hby d12_15) kk) ?_
  show Go _ _ _ _ _ _ _ T0 (mkF m 16 #[_, _, _, _, _, _, _] [(.long (0 : Int64)), (.long (0 : Int64))])
  refine Go.step (fun tt kk => XS.lcmp X0.here hx rfl (hb hby d12_16) rfl kk) ?_
  show Go _ _ _ _ _ _ _ T0 (mkF m 17 #[_, _, _, _, _, _, _] [(.int (lcmpW (0 : Int64) (0 : Int64)))])
  refine Go.step (fun tt kk => XS.ifYes X0.here hx rfl (pc0 := 17) (pc' := 85) rfl (hb hby d12_17) rfl ((if0 _ _).trans (teq ((lw_eq _ _).mpr rfl)).1) (by decide) (by decide) kk) ?_
  show Go _ _ _ _ _ _ _ T0 (mkF m 85 #[_, _, _, _, _, _, _] [])
  refine Go.step (fun tt kk => XS.aloadN X0.here hx rfl (hb hby d12_85) rfl rfl kk) ?_
  show Go _ _ _ _ _ _ _ T0 (mkF m 86 #[_, _, _, _, _, _, _] [(.ref x)])
  refine Go.step (fun tt kk => XS.iloadN X0.here hx rfl (hb hby d12_86) rfl kk) ?_
  show Go _ _ _ _ _ _ _ T0 (mkF m 87 #[_, _, _, _, _, _, _] [(.int (0 : Int32)), (.ref x)])
  refine Go.step (fun tt kk => XS.lconst X0.here hx rfl (hb hby d12_87) kk) ?_
  show Go _ _ _ _ _ _ _ T0 (mkF m 88 #[_, _, _, _, _, _, _] [(.long (0 : Int64)), (.int (0 : Int32)), (.ref x)])
  obtain ⟨cl1, Ar1, hin1, -⟩ := V_x.at (j := (0 : Int32)) (k := 0) (by decide) (by omega)
  obtain ⟨T1, h1, X1, e1, W1, st1⟩ := stJ X0 hx hZ e0 Ar1 (j := (0 : Int32)) hin1 (g := (mkF m 88 #[.val (.ref a), .val (.ref x), .val (.int y), .val (.int (0 : Int32)), .val (.long (0 : Int64)), .second, .unset] [(.long (0 : Int64)), (.int (0 : Int32)), (.ref x)])) rfl rfl (hb hby d12_88)
  have V1 : AV Z h1 x .long n (upd (lv w0) 0 (.long (0 : Int64))) := AV.set V_x (k := 0) (by decide) (by omega) W1
  have N1 := Fr.snoc X1 N0 g_x
  have Z1 : n0 ≤ h1.size := Nat.le_trans Z0 (Keep.of_wr W1).1
  have K1 : Keep hI h1 [x] := K0.wr W1 (Or.inl (List.mem_of_getElem? (i := 0) rfl))
  refine Go.step (st1) ?_
  show Go _ _ _ _ _ _ _ T1 (mkF m 89 #[_, _, _, _, _, _, _] [])
  refine Go.step (fun tt kk => XS.iinc X1.here hx rfl (hb hby d12_89) rfl (l' := #[.val (.ref a), .val (.ref x), .val (.int y), .val (.int (1 : Int32)), .val (.long (0 : Int64)), .second, .unset]) rfl kk) ?_
  show Go _ _ _ _ _ _ _ T1 (mkF m 92 #[_, _, _, _, _, _, _] [])
  show Go _ _ _ _ _ _ _ T1 (mkF m 92 #[.val (.ref a), .val (.ref x), .val (.int y), .val (.int (Int32.ofNat 1)), .val (.long (0 : Int64)), .second, .unset] [])
  refine Go.step (fun tt kk => XS.goto X1.here hx rfl (pc0 := 92) (pc' := 2) rfl (hb hby d12_92) (by decide) (by decide) kk) ?_
  show Go _ _ _ _ _ _ _ T1 (mkF m 2 #[_, _, _, _, _, _, _] [])
  have V2 : AV Z h1 x .long n (lv w0) := V1.congr fun i hi => by
    by_cases q : i = 0
    · subst q; exact upd_eq
    · exact upd_ne q
  have lp2 : ∀ (u : Nat)  (T2_lp : State) (lc2_lp : List Loc) (hh2_lp : Heap) (X2_lp : Stand p l e ({ frames := 0, cells := 0, slots := 0, locals := 0 } : Room) s m #[(.ref a), (.ref x), (.int y)] below meth c T2_lp lc2_lp 0 0) (e2_lp : T2_lp.heap = hh2_lp) (N2_lp : Fr n0 lc2_lp) (Z2_lp : n0 ≤ hh2_lp.size) (K2_lp : Keep hI hh2_lp [x]) (f2_lp_0 : AV Z hh2_lp x .long n (lv w0)) (hu : u ≤ n),
      Go p e s below 0 0 (fun v h L => v = none ∧ Fr n0 L ∧ Keep h0 h [x] ∧ AV Z h x .long n (lv w0)) T2_lp (mkF m 2 #[.val (.ref a), .val (.ref x), .val (.int y), .val (.int (Int32.ofNat (n - u))), .val (.long (0 : Int64)), .second, .unset] []) := by
    intro u
    induction u with
    | zero =>
      intro  T2_lp lc2_lp hh2_lp X2_lp e2_lp N2_lp Z2_lp K2_lp f2_lp_0 hu
      show Go _ _ _ _ _ _ _ T2_lp (mkF m 2 #[.val (.ref a), .val (.ref x), .val (.int y), .val (.int (Int32.ofNat n)), .val (.long (0 : Int64)), .second, .unset] [])
      refine Go.step (fun tt kk => XS.iloadN X2_lp.here hx rfl (hb hby d12_2) rfl kk) ?_
      show Go _ _ _ _ _ _ _ T2_lp (mkF m 3 #[_, _, _, _, _, _, _] [(.int (Int32.ofNat n))])
      refine Go.step (fun tt kk => XS.aloadN X2_lp.here hx rfl (hb hby d12_3) rfl rfl kk) ?_
      show Go _ _ _ _ _ _ _ T2_lp (mkF m 4 #[_, _, _, _, _, _, _] [(.ref x), (.int (Int32.ofNat n))])
      refine Go.step (a_len X2_lp hx hZ e2_lp f2_lp_0 (z := (Int32.ofNat n)) (Int32.toInt_ofNat_of_lt (by omega)) (hb hby d12_4)) ?_
      show Go _ _ _ _ _ _ _ T2_lp (mkF m 5 #[_, _, _, _, _, _, _] [(.int (Int32.ofNat n)), (.int (Int32.ofNat n))])
      refine Go.step (fun tt kk => XS.icmpYes X2_lp.here hx rfl (pc0 := 5) (pc' := 95) rfl (hb hby d12_5) rfl (flt (mt (own_lt n n (by omega) (by omega)).mp (Nat.lt_irrefl _))).2.1 (by decide) (by decide) kk) ?_
      show Go _ _ _ _ _ _ _ T2_lp (mkF m 95 #[_, _, _, _, _, _, _] [])
      refine go_ret X2_lp hx hret hlk (hb hby d12_95) ?_ (by decide) (by decide)
      try rw [e2_lp]
      exact ⟨rfl, N2_lp, eI ▸ K2_lp, f2_lp_0⟩
    | succ u ih =>
      intro  T2_lp lc2_lp hh2_lp X2_lp e2_lp N2_lp Z2_lp K2_lp f2_lp_0 hu
      show Go _ _ _ _ _ _ _ T2_lp (mkF m 2 #[.val (.ref a), .val (.ref x), .val (.int y), .val (.int (Int32.ofNat (n - (u + 1)))), .val (.long (0 : Int64)), .second, .unset] [])
      refine Go.step (fun tt kk => XS.iloadN X2_lp.here hx rfl (hb hby d12_2) rfl kk) ?_
      show Go _ _ _ _ _ _ _ T2_lp (mkF m 3 #[_, _, _, _, _, _, _] [(.int (Int32.ofNat (n - (u + 1))))])
      refine Go.step (fun tt kk => XS.aloadN X2_lp.here hx rfl (hb hby d12_3) rfl rfl kk) ?_
      show Go _ _ _ _ _ _ _ T2_lp (mkF m 4 #[_, _, _, _, _, _, _] [(.ref x), (.int (Int32.ofNat (n - (u + 1))))])
      refine Go.step (a_len X2_lp hx hZ e2_lp f2_lp_0 (z := (Int32.ofNat n)) (Int32.toInt_ofNat_of_lt (by omega)) (hb hby d12_4)) ?_
      show Go _ _ _ _ _ _ _ T2_lp (mkF m 5 #[_, _, _, _, _, _, _] [(.int (Int32.ofNat n)), (.int (Int32.ofNat (n - (u + 1))))])
      refine Go.step (fun tt kk => XS.icmpNo X2_lp.here hx rfl (hb hby d12_5) rfl (tlt ((own_lt (n - (u + 1)) n (by omega) (by omega)).mpr (by omega))).2.1 kk) ?_
      show Go _ _ _ _ _ _ _ T2_lp (mkF m 8 #[_, _, _, _, _, _, _] [])
      refine Go.step (fun tt kk => XS.aloadN X2_lp.here hx rfl (hb hby d12_8) rfl rfl kk) ?_
      show Go _ _ _ _ _ _ _ T2_lp (mkF m 9 #[_, _, _, _, _, _, _] [(.ref x)])
      refine Go.step (fun tt kk => XS.iloadN X2_lp.here hx rfl (hb hby d12_9) rfl kk) ?_
      show Go _ _ _ _ _ _ _ T2_lp (mkF m 10 #[_, _, _, _, _, _, _] [(.int (Int32.ofNat (n - (u + 1)))), (.ref x)])
      refine Go.step (a_jload X2_lp hx hZ e2_lp f2_lp_0 (k := (n - (u + 1))) (Int32.toInt_ofNat_of_lt (by omega)) (by omega) (x := (0 : Int64)) rfl (hb hby d12_10)) ?_
      show Go _ _ _ _ _ _ _ T2_lp (mkF m 11 #[_, _, _, _, _, _, _] [(.long (0 : Int64))])
      refine Go.step (fun tt kk => XS.lstore X2_lp.here hx rfl (hb hby d12_11) rfl (l' := #[.val (.ref a), .val (.ref x), .val (.int y), .val (.int (Int32.ofNat (n - (u + 1)))), .val (.long (0 : Int64)), .second, .unset]) rfl kk) ?_
      show Go _ _ _ _ _ _ _ T2_lp (mkF m 13 #[_, _, _, _, _, _, _] [])
      refine Go.step (fun tt kk => XS.lload X2_lp.here hx rfl (hb hby d12_13) rfl kk) ?_
      show Go _ _ _ _ _ _ _ T2_lp (mkF m 15 #[_, _, _, _, _, _, _] [(.long (0 : Int64))])
      refine Go.step (fun tt kk => XS.lconst X2_lp.here hx rfl (hb hby d12_15) kk) ?_
      show Go _ _ _ _ _ _ _ T2_lp (mkF m 16 #[_, _, _, _, _, _, _] [(.long (0 : Int64)), (.long (0 : Int64))])
      refine Go.step (fun tt kk => XS.lcmp X2_lp.here hx rfl (hb hby d12_16) rfl kk) ?_
      show Go _ _ _ _ _ _ _ T2_lp (mkF m 17 #[_, _, _, _, _, _, _] [(.int (lcmpW (0 : Int64) (0 : Int64)))])
      refine Go.step (fun tt kk => XS.ifYes X2_lp.here hx rfl (pc0 := 17) (pc' := 85) rfl (hb hby d12_17) rfl ((if0 _ _).trans (teq ((lw_eq _ _).mpr rfl)).1) (by decide) (by decide) kk) ?_
      show Go _ _ _ _ _ _ _ T2_lp (mkF m 85 #[_, _, _, _, _, _, _] [])
      refine Go.step (fun tt kk => XS.aloadN X2_lp.here hx rfl (hb hby d12_85) rfl rfl kk) ?_
      show Go _ _ _ _ _ _ _ T2_lp (mkF m 86 #[_, _, _, _, _, _, _] [(.ref x)])
      refine Go.step (fun tt kk => XS.iloadN X2_lp.here hx rfl (hb hby d12_86) rfl kk) ?_
      show Go _ _ _ _ _ _ _ T2_lp (mkF m 87 #[_, _, _, _, _, _, _] [(.int (Int32.ofNat (n - (u + 1)))), (.ref x)])
      refine Go.step (fun tt kk => XS.lconst X2_lp.here hx rfl (hb hby d12_87) kk) ?_
      show Go _ _ _ _ _ _ _ T2_lp (mkF m 88 #[_, _, _, _, _, _, _] [(.long (0 : Int64)), (.int (Int32.ofNat (n - (u + 1)))), (.ref x)])
      obtain ⟨cl3, Ar3, hin3, -⟩ := f2_lp_0.at (j := (Int32.ofNat (n - (u + 1)))) (k := (n - (u + 1))) (Int32.toInt_ofNat_of_lt (by omega)) (by omega)
      obtain ⟨T3, h3, X3, e3, W3, st3⟩ := stJ X2_lp hx hZ e2_lp Ar3 (j := (Int32.ofNat (n - (u + 1)))) hin3 (g := (mkF m 88 #[.val (.ref a), .val (.ref x), .val (.int y), .val (.int (Int32.ofNat (n - (u + 1)))), .val (.long (0 : Int64)), .second, .unset] [(.long (0 : Int64)), (.int (Int32.ofNat (n - (u + 1)))), (.ref x)])) rfl rfl (hb hby d12_88)
      have V3 : AV Z h3 x .long n (upd (lv w0) (n - (u + 1)) (.long (0 : Int64))) := AV.set f2_lp_0 (k := (n - (u + 1))) (Int32.toInt_ofNat_of_lt (by omega)) (by omega) W3
      have N3 := Fr.snoc X3 N2_lp g_x
      have Z3 : n0 ≤ h3.size := Nat.le_trans Z2_lp (Keep.of_wr W3).1
      have K3 : Keep hI h3 [x] := K2_lp.wr W3 (Or.inl (List.mem_of_getElem? (i := 0) rfl))
      refine Go.step (st3) ?_
      show Go _ _ _ _ _ _ _ T3 (mkF m 89 #[_, _, _, _, _, _, _] [])
      refine Go.step (fun tt kk => XS.iinc X3.here hx rfl (hb hby d12_89) rfl (l' := #[.val (.ref a), .val (.ref x), .val (.int y), .val (.int ((Int32.ofNat (n - (u + 1))) + (1 : Int32))), .val (.long (0 : Int64)), .second, .unset]) rfl kk) ?_
      show Go _ _ _ _ _ _ _ T3 (mkF m 92 #[_, _, _, _, _, _, _] [])
      rw [own_up n u (by omega)]
      show Go _ _ _ _ _ _ _ T3 (mkF m 92 #[.val (.ref a), .val (.ref x), .val (.int y), .val (.int (Int32.ofNat (n - u))), .val (.long (0 : Int64)), .second, .unset] [])
      refine Go.step (fun tt kk => XS.goto X3.here hx rfl (pc0 := 92) (pc' := 2) rfl (hb hby d12_92) (by decide) (by decide) kk) ?_
      show Go _ _ _ _ _ _ _ T3 (mkF m 2 #[_, _, _, _, _, _, _] [])
      have V4 : AV Z h3 x .long n (lv w0) := V3.congr fun i hi => by
        by_cases q : i = n - (u + 1)
        · subst q; exact upd_eq
        · exact upd_ne q
      exact ih  _ _ _ (X3.more (by decide) (by decide)) e3 N3 Z3 K3 V4 (by omega)
  have qlp2 := lp2 (n - 1)  _ _ _ (X1.more (by decide) (by decide)) e1 N1 Z1 K1 V2 (by omega)
  rw [show n - (n - 1) = 1 by omega] at qlp2
  exact qlp2
theorem ef_rmSo (m : MethodId) (x0 : Addr) (x1 : Addr) : entryFrame m #[(.ref x0), (.ref x1)] 2 = mkF m 0 #[.val (.ref x0), .val (.ref x1)] [] := by first | (simp [entryFrame, mkF, argsToLocals, Value.category]; done) | rfl
theorem d11_0 : decode prog_61_method_2_code 0 = .ok (.aload_n 0, 1) := by decide +kernel
theorem d11_1 : decode prog_61_method_2_code 1 = .ok (.aload_n 1, 1) := by decide +kernel
theorem d11_2 : decode prog_61_method_2_code 2 = .ok (.putfield 44, 3) := by decide +kernel
theorem d11_5 : decode prog_61_method_2_code 5 = .ok (.aload_n 0, 1) := by decide +kernel
theorem d11_6 : decode prog_61_method_2_code 6 = .ok (.aload_n 0, 1) := by decide +kernel
theorem d11_7 : decode prog_61_method_2_code 7 = .ok (.getfield 32, 3) := by decide +kernel
theorem d11_10 : decode prog_61_method_2_code 10 = .ok (.iconst 0, 1) := by decide +kernel
theorem pd_3 : parseMethodDescriptor "([JI)V" = some ⟨[(.array .long), .int], none⟩ := by decide +kernel
theorem d11_11 : decode prog_61_method_2_code 11 = .ok (.invokevirtual 48, 3) := by decide +kernel
theorem d11_14 : decode prog_61_method_2_code 14 = .ok (.aload_n 0, 1) := by decide +kernel
theorem d11_15 : decode prog_61_method_2_code 15 = .ok (.aload_n 0, 1) := by decide +kernel
theorem d11_16 : decode prog_61_method_2_code 16 = .ok (.getfield 35, 3) := by decide +kernel
theorem d11_19 : decode prog_61_method_2_code 19 = .ok (.aload_n 0, 1) := by decide +kernel
theorem d11_20 : decode prog_61_method_2_code 20 = .ok (.getfield 52, 3) := by decide +kernel
theorem d11_23 : decode prog_61_method_2_code 23 = .ok (.invokevirtual 48, 3) := by decide +kernel
theorem d11_26 : decode prog_61_method_2_code 26 = .ok (.aload_n 0, 1) := by decide +kernel
theorem d11_27 : decode prog_61_method_2_code 27 = .ok (.getfield 38, 3) := by decide +kernel
theorem d11_30 : decode prog_61_method_2_code 30 = .ok (.lconst 0, 1) := by decide +kernel
theorem pd_4 : parseMethodDescriptor "([JJ)V" = some ⟨[(.array .long), .long], none⟩ := by decide +kernel
theorem d11_31 : decode prog_61_method_2_code 31 = .ok (.invokestatic 55, 3) := by decide +kernel
theorem d11_34 : decode prog_61_method_2_code 34 = .ok (.aload_n 0, 1) := by decide +kernel
theorem d11_35 : decode prog_61_method_2_code 35 = .ok (.getfield 41, 3) := by decide +kernel
theorem d11_38 : decode prog_61_method_2_code 38 = .ok (.lconst 0, 1) := by decide +kernel
theorem d11_39 : decode prog_61_method_2_code 39 = .ok (.invokestatic 55, 3) := by decide +kernel
theorem d11_42 : decode prog_61_method_2_code 42 = .ok (.aload_n 0, 1) := by decide +kernel
theorem d11_43 : decode prog_61_method_2_code 43 = .ok (.iconst 1, 1) := by decide +kernel
theorem d11_44 : decode prog_61_method_2_code 44 = .ok (.putfield 61, 3) := by decide +kernel
theorem d11_47 : decode prog_61_method_2_code 47 = .ok (.aload_n 0, 1) := by decide +kernel
theorem d11_48 : decode prog_61_method_2_code 48 = .ok (.iconst 0, 1) := by decide +kernel
theorem d11_49 : decode prog_61_method_2_code 49 = .ok (.putfield 65, 3) := by decide +kernel
theorem d11_52 : decode prog_61_method_2_code 52 = .ok (.return_, 1) := by decide +kernel
set_option maxRecDepth 65536 in
set_option maxHeartbeats 40000000 in
theorem rmSo (l : Launch) (Z : State) (a0 : Array Value) (hw : ∀ d ∈ tables_1, d.before a0 Z = true) (ws : List Jvm.Cond) (a gr cr cc rr rc : Addr) (H nr nc : Nat) (tk : Int64) (gv : Value) (r0 s0 : Int32) (h0 : Heap) (n0 : Nat) (Z0 : n0 ≤ h0.size) (E_a : Exa Z h0 a "com/example/gridwright/gridwright/engine/LargeDraft") (F_0 : Fld Z h0 a "com/example/gridwright/gridwright/engine/Draft" "height" "I" (.int (Int32.ofNat H))) (F_1 : Fld Z h0 a "com/example/gridwright/gridwright/engine/Draft" "taken" "J" (.long tk)) (F_2 : Fld Z h0 a "com/example/gridwright/gridwright/engine/LargeDraft" "changedRows" "[J" (.ref cr)) (F_3 : Fld Z h0 a "com/example/gridwright/gridwright/engine/LargeDraft" "changedColumns" "[J" (.ref cc)) (F_4 : Fld Z h0 a "com/example/gridwright/gridwright/engine/LargeDraft" "waitingRows" "[J" (.ref rr)) (F_5 : Fld Z h0 a "com/example/gridwright/gridwright/engine/LargeDraft" "waitingColumns" "[J" (.ref rc)) (F_6 : Fld Z h0 a "com/example/gridwright/gridwright/engine/LargeDraft" "grid" "Lcom/example/gridwright/gridwright/engine/Grid;" gv) (F_7 : Fld Z h0 a "com/example/gridwright/gridwright/engine/LargeDraft" "rows" "Z" (.int r0)) (F_8 : Fld Z h0 a "com/example/gridwright/gridwright/engine/LargeDraft" "scan" "I" (.int s0)) (V_cr : AV Z h0 cr .long nr (lv w0)) (V_cc : AV Z h0 cc .long nc (lv w0)) (V_rr : AV Z h0 rr .long nr (lv w0)) (V_rc : AV Z h0 rc .long nc (lv w0)) (g_a : n0 ≤ a) (g_cr : n0 ≤ cr) (g_cc : n0 ≤ cc) (g_rr : n0 ≤ rr) (g_rc : n0 ≤ rc) (ne_a_cr : a ≠ cr) (ne_a_cc : a ≠ cc) (ne_a_rr : a ≠ rr) (ne_a_rc : a ≠ rc) (ne_cr_cc : cr ≠ cc) (ne_cr_rr : cr ≠ rr) (ne_cr_rc : cr ≠ rc) (ne_cc_rr : cc ≠ rr) (ne_cc_rc : cc ≠ rc) (ne_rr_rc : rr ≠ rc) (hnr1 : 1 ≤ nr) (hnr : nr ≤ 2) (hnc1 : 1 ≤ nc) (hnc : nc ≤ 2) :
    Ctr l Z (⟨"com/example/gridwright/gridwright/engine/LargeDraft", "startOver", "(Lcom/example/gridwright/gridwright/engine/Grid;)V"⟩ : MethodName) prog_61_method_2_code 2 none ws ({ frames := 1, cells := 0, slots := 0, locals := 18 } : Room) 0 0 #[(.ref a), (.ref gr)] h0 (fun v h L => v = none ∧ Fr n0 L ∧ Keep h0 h [a, cr, cc, rr, rc] ∧ Exa Z h a "com/example/gridwright/gridwright/engine/LargeDraft" ∧ Fld Z h a "com/example/gridwright/gridwright/engine/Draft" "height" "I" (.int (Int32.ofNat H)) ∧ Fld Z h a "com/example/gridwright/gridwright/engine/Draft" "taken" "J" (.long tk) ∧ Fld Z h a "com/example/gridwright/gridwright/engine/LargeDraft" "waitingRows" "[J" (.ref rr) ∧ Fld Z h a "com/example/gridwright/gridwright/engine/LargeDraft" "waitingColumns" "[J" (.ref rc) ∧ Fld Z h a "com/example/gridwright/gridwright/engine/LargeDraft" "rows" "Z" (.int (1 : Int32)) ∧ Fld Z h a "com/example/gridwright/gridwright/engine/LargeDraft" "scan" "I" (.int (0 : Int32)) ∧ AV Z h rr .long nr (lv w0) ∧ AV Z h rc .long nc (lv w0)) := by
  refine Ctr.mk (plainFor_of_name pn_4) fun p e s m below meth c T0 X0 C e0 => go_cast (ef_rmSo m a gr) ?_
  have N0 := Fr.nil n0
  obtain ⟨hx, hZ, hby, hml, hown, hnm, hret, hlk⟩ := C
  obtain ⟨hI, eI⟩ : ∃ z, z = h0 := ⟨_, rfl⟩
  have K0 : Keep hI h0 [a, cr, cc, rr, rc] := by rw [eI]; exact Keep.refl _ _
  show Go _ _ _ _ _ _ _ T0 (mkF m 0 #[.val (.ref a), .val (.ref gr)] [])
  refine Go.step (fun tt kk => XS.aloadN X0.here hx rfl (hb hby d11_0) rfl rfl kk) ?_
  show Go _ _ _ _ _ _ _ T0 (mkF m 1 #[_, _] [(.ref a)])
  refine Go.step (fun tt kk => XS.aloadN X0.here hx rfl (hb hby d11_1) rfl rfl kk) ?_
  show Go _ _ _ _ _ _ _ T0 (mkF m 2 #[_, _] [(.ref gr), (.ref a)])
  obtain ⟨T1, h1, X1, e1, W1, st1⟩ := putF X0 hx hZ hown (host := "") (Or.inl (hw _ (List.mem_of_getElem? (i := 94) rfl))) Via.refl e0 F_6 E_a (Or.inl (hw _ (List.mem_of_getElem? (i := 95) rfl))) (hw _ (List.mem_of_getElem? (i := 2) rfl)) (ty := (.object "com/example/gridwright/gridwright/engine/Grid")) (by decide) rfl rfl (g := (mkF m 2 #[.val (.ref a), .val (.ref gr)] [(.ref gr), (.ref a)])) rfl rfl (hb hby d11_2)
  have F1 := Fld.same W1 F_6
  have N1 := Fr.snoc X1 N0 g_a
  have Z1 : n0 ≤ h1.size := Nat.le_trans Z0 (Keep.of_wr W1).1
  have K1 : Keep hI h1 [a, cr, cc, rr, rc] := K0.wr W1 (Or.inl (List.mem_of_getElem? (i := 0) rfl))
  refine Go.step (st1) ?_
  show Go _ _ _ _ _ _ _ T1 (mkF m 5 #[_, _] [])
  refine Go.step (fun tt kk => XS.aloadN X1.here hx rfl (hb hby d11_5) rfl rfl kk) ?_
  show Go _ _ _ _ _ _ _ T1 (mkF m 6 #[_, _] [(.ref a)])
  refine Go.step (fun tt kk => XS.aloadN X1.here hx rfl (hb hby d11_6) rfl rfl kk) ?_
  show Go _ _ _ _ _ _ _ T1 (mkF m 7 #[_, _] [(.ref a), (.ref a)])
  have f3 := (Fld.other W1 F_2 (Or.inr (slot_ne (Or.inr (hw _ (List.mem_of_getElem? (i := 35) rfl))) (Or.inl (hw _ (List.mem_of_getElem? (i := 95) rfl))) (by decide) (t := (.array .long)) (t' := (.object "com/example/gridwright/gridwright/engine/Grid")) (by decide) (by decide))))
  obtain ⟨T2, X2, e2, st2⟩ := getF X1 hx hZ hown (host := "") (Or.inl (hw _ (List.mem_of_getElem? (i := 34) rfl))) Via.refl e1 f3 (g := (mkF m 7 #[.val (.ref a), .val (.ref gr)] [(.ref a), (.ref a)])) rfl rfl (hb hby d11_7)
  refine Go.step (st2) ?_
  show Go _ _ _ _ _ _ _ T2 (mkF m 10 #[_, _] [(.ref cr), (.ref a)])
  refine Go.step (fun tt kk => XS.iconst X2.here hx rfl (hb hby d11_10) kk) ?_
  show Go _ _ _ _ _ _ _ T2 (mkF m 11 #[_, _] [(.int (0 : Int32)), (.ref cr), (.ref a)])
  have f5 := (V_cr.other W1 (Ne.symm ne_a_cr))
  have f6 := (Exa.wr W1 E_a)
  obtain ⟨v4, T4, L4, X4, q4, st4⟩ := c_priv X2 hx hZ hown (y := (⟨"com/example/gridwright/gridwright/engine/LargeDraft", "clear", "([JI)V"⟩ : MethodName)) (hw _ (List.mem_of_getElem? (i := 96) rfl)) (hw _ (List.mem_of_getElem? (i := 97) rfl)) (own_nf (mvT (args := #[]) hZ (hw _ (List.mem_of_getElem? (i := 91) rfl))) rfl) (hw _ (List.mem_of_getElem? (i := 98) rfl)) (hw _ (List.mem_of_getElem? (i := 3) rfl)) (hw _ (List.mem_of_getElem? (i := 99) rfl)) (by decide) (a := a) (argsL := [(.ref cr), (.int (0 : Int32))]) (rest := []) (rmCl l Z a0 hw [] a cr nr (0 : Int32) h1 n0 Z1 f5 g_cr (by omega) (by omega)) e2 f6 pd_3 rfl (by rw [hml]; rfl) (W := 0) (by show 2 * 0 + _ ≤ _; exact Nat.le_of_eq rfl) (by decide) (by decide) (by decide) (by decide) (hb hby d11_11) (Ls := #[.val (.ref a), .val (.ref gr)])
  generalize e4 : T4.heap = h4 at q4
  obtain ⟨rfl, N4q, K4q, F4q0⟩ := q4
  have N4 := Fr.app N1 N4q
  have Z4 : n0 ≤ h4.size := Nat.le_trans Z1 K4q.1
  have K4 : Keep hI h4 [a, cr, cc, rr, rc] := K1.trans K4q (allS (Or.inl (List.mem_of_getElem? (i := 1) rfl)) all0)
  refine Go.step (st4) ?_
  show Go _ _ _ _ _ _ _ T4 (mkF m 14 #[_, _] [])
  refine Go.step (fun tt kk => XS.aloadN X4.here hx rfl (hb hby d11_14) rfl rfl kk) ?_
  show Go _ _ _ _ _ _ _ T4 (mkF m 15 #[_, _] [(.ref a)])
  refine Go.step (fun tt kk => XS.aloadN X4.here hx rfl (hb hby d11_15) rfl rfl kk) ?_
  show Go _ _ _ _ _ _ _ T4 (mkF m 16 #[_, _] [(.ref a), (.ref a)])
  have f8 := ((Fld.other W1 F_3 (Or.inr (slot_ne (Or.inr (hw _ (List.mem_of_getElem? (i := 37) rfl))) (Or.inl (hw _ (List.mem_of_getElem? (i := 95) rfl))) (by decide) (t := (.array .long)) (t' := (.object "com/example/gridwright/gridwright/engine/Grid")) (by decide) (by decide)))).keep K4q (ninS ne_a_cr nin0))
  obtain ⟨T7, X7, e7, st7⟩ := getF X4 hx hZ hown (host := "") (Or.inl (hw _ (List.mem_of_getElem? (i := 36) rfl))) Via.refl e4 f8 (g := (mkF m 16 #[.val (.ref a), .val (.ref gr)] [(.ref a), (.ref a)])) rfl rfl (hb hby d11_16)
  refine Go.step (st7) ?_
  show Go _ _ _ _ _ _ _ T7 (mkF m 19 #[_, _] [(.ref cc), (.ref a)])
  refine Go.step (fun tt kk => XS.aloadN X7.here hx rfl (hb hby d11_19) rfl rfl kk) ?_
  show Go _ _ _ _ _ _ _ T7 (mkF m 20 #[_, _] [(.ref a), (.ref cc), (.ref a)])
  have f10 := ((Fld.other W1 F_0 (Or.inr (slot_ne (Or.inr (hw _ (List.mem_of_getElem? (i := 18) rfl))) (Or.inl (hw _ (List.mem_of_getElem? (i := 95) rfl))) (by decide) (t := .int) (t' := (.object "com/example/gridwright/gridwright/engine/Grid")) (by decide) (by decide)))).keep K4q (ninS ne_a_cr nin0))
  obtain ⟨T9, X9, e9, st9⟩ := getF X7 hx hZ hown (host := "") (Or.inl (hw _ (List.mem_of_getElem? (i := 100) rfl))) (Via.of (hw _ (List.mem_of_getElem? (i := 101) rfl))) e7 f10 (g := (mkF m 20 #[.val (.ref a), .val (.ref gr)] [(.ref a), (.ref cc), (.ref a)])) rfl rfl (hb hby d11_20)
  refine Go.step (st9) ?_
  show Go _ _ _ _ _ _ _ T9 (mkF m 23 #[_, _] [(.int (Int32.ofNat H)), (.ref cc), (.ref a)])
  have f12 := ((V_cc.other W1 (Ne.symm ne_a_cc)).keep K4q (ninS (Ne.symm ne_cr_cc) nin0))
  have f13 := (f6.keep K4q)
  obtain ⟨v11, T11, L11, X11, q11, st11⟩ := c_priv X9 hx hZ hown (y := (⟨"com/example/gridwright/gridwright/engine/LargeDraft", "clear", "([JI)V"⟩ : MethodName)) (hw _ (List.mem_of_getElem? (i := 96) rfl)) (hw _ (List.mem_of_getElem? (i := 97) rfl)) (own_nf (mvT (args := #[]) hZ (hw _ (List.mem_of_getElem? (i := 91) rfl))) rfl) (hw _ (List.mem_of_getElem? (i := 98) rfl)) (hw _ (List.mem_of_getElem? (i := 3) rfl)) (hw _ (List.mem_of_getElem? (i := 99) rfl)) (by decide) (a := a) (argsL := [(.ref cc), (.int (Int32.ofNat H))]) (rest := []) (rmCl l Z a0 hw [] a cc nc (Int32.ofNat H) h4 n0 Z4 f12 g_cc (by omega) (by omega)) e9 f13 pd_3 rfl (by rw [hml]; rfl) (W := 0) (by show 2 * 0 + _ ≤ _; exact Nat.le_of_eq rfl) (by decide) (by decide) (by decide) (by decide) (hb hby d11_23) (Ls := #[.val (.ref a), .val (.ref gr)])
  generalize e11 : T11.heap = h11 at q11
  obtain ⟨rfl, N11q, K11q, F11q0⟩ := q11
  have N11 := Fr.app N4 N11q
  have Z11 : n0 ≤ h11.size := Nat.le_trans Z4 K11q.1
  have K11 : Keep hI h11 [a, cr, cc, rr, rc] := K4.trans K11q (allS (Or.inl (List.mem_of_getElem? (i := 2) rfl)) all0)
  refine Go.step (st11) ?_
  show Go _ _ _ _ _ _ _ T11 (mkF m 26 #[_, _] [])
  refine Go.step (fun tt kk => XS.aloadN X11.here hx rfl (hb hby d11_26) rfl rfl kk) ?_
  show Go _ _ _ _ _ _ _ T11 (mkF m 27 #[_, _] [(.ref a)])
  have f15 := (((Fld.other W1 F_4 (Or.inr (slot_ne (Or.inr (hw _ (List.mem_of_getElem? (i := 39) rfl))) (Or.inl (hw _ (List.mem_of_getElem? (i := 95) rfl))) (by decide) (t := (.array .long)) (t' := (.object "com/example/gridwright/gridwright/engine/Grid")) (by decide) (by decide)))).keep K4q (ninS ne_a_cr nin0)).keep K11q (ninS ne_a_cc nin0))
  obtain ⟨T14, X14, e14, st14⟩ := getF X11 hx hZ hown (host := "") (Or.inl (hw _ (List.mem_of_getElem? (i := 38) rfl))) Via.refl e11 f15 (g := (mkF m 27 #[.val (.ref a), .val (.ref gr)] [(.ref a)])) rfl rfl (hb hby d11_27)
  refine Go.step (st14) ?_
  show Go _ _ _ _ _ _ _ T14 (mkF m 30 #[_, _] [(.ref rr)])
  refine Go.step (fun tt kk => XS.lconst X14.here hx rfl (hb hby d11_30) kk) ?_
  show Go _ _ _ _ _ _ _ T14 (mkF m 31 #[_, _] [(.long (0 : Int64)), (.ref rr)])
  have f17 := (((V_rr.other W1 (Ne.symm ne_a_rr)).keep K4q (ninS (Ne.symm ne_cr_rr) nin0)).keep K11q (ninS (Ne.symm ne_cc_rr) nin0))
  obtain ⟨v16, T16, L16, X16, q16, st16⟩ := c_static X14 hx hZ hown (y := (⟨"java/util/Arrays", "fill", "([JJ)V"⟩ : MethodName)) (hw _ (List.mem_of_getElem? (i := 102) rfl)) (hw _ (List.mem_of_getElem? (i := 103) rfl)) (hw _ (List.mem_of_getElem? (i := 104) rfl)) (hw _ (List.mem_of_getElem? (i := 105) rfl)) (by decide) (argsL := [(.ref rr), (.long (0 : Int64))]) (rest := []) (rmFi l Z a0 hw [] rr nr h11 n0 Z11 f17 g_rr (by omega)) e14 pd_4 rfl (by rw [hml]; rfl) (W := 0) (by show 2 * 0 + _ ≤ _; exact Nat.le_of_eq rfl) (by decide) (by decide) (by decide) (by decide) (hb hby d11_31) (Ls := #[.val (.ref a), .val (.ref gr)])
  generalize e16 : T16.heap = h16 at q16
  obtain ⟨rfl, N16q, K16q, F16q0⟩ := q16
  have N16 := Fr.app N11 N16q
  have Z16 : n0 ≤ h16.size := Nat.le_trans Z11 K16q.1
  have K16 : Keep hI h16 [a, cr, cc, rr, rc] := K11.trans K16q (allS (Or.inl (List.mem_of_getElem? (i := 3) rfl)) all0)
  refine Go.step (st16) ?_
  show Go _ _ _ _ _ _ _ T16 (mkF m 34 #[_, _] [])
  refine Go.step (fun tt kk => XS.aloadN X16.here hx rfl (hb hby d11_34) rfl rfl kk) ?_
  show Go _ _ _ _ _ _ _ T16 (mkF m 35 #[_, _] [(.ref a)])
  have f19 := ((((Fld.other W1 F_5 (Or.inr (slot_ne (Or.inr (hw _ (List.mem_of_getElem? (i := 41) rfl))) (Or.inl (hw _ (List.mem_of_getElem? (i := 95) rfl))) (by decide) (t := (.array .long)) (t' := (.object "com/example/gridwright/gridwright/engine/Grid")) (by decide) (by decide)))).keep K4q (ninS ne_a_cr nin0)).keep K11q (ninS ne_a_cc nin0)).keep K16q (ninS ne_a_rr nin0))
  obtain ⟨T18, X18, e18, st18⟩ := getF X16 hx hZ hown (host := "") (Or.inl (hw _ (List.mem_of_getElem? (i := 40) rfl))) Via.refl e16 f19 (g := (mkF m 35 #[.val (.ref a), .val (.ref gr)] [(.ref a)])) rfl rfl (hb hby d11_35)
  refine Go.step (st18) ?_
  show Go _ _ _ _ _ _ _ T18 (mkF m 38 #[_, _] [(.ref rc)])
  refine Go.step (fun tt kk => XS.lconst X18.here hx rfl (hb hby d11_38) kk) ?_
  show Go _ _ _ _ _ _ _ T18 (mkF m 39 #[_, _] [(.long (0 : Int64)), (.ref rc)])
  have f21 := ((((V_rc.other W1 (Ne.symm ne_a_rc)).keep K4q (ninS (Ne.symm ne_cr_rc) nin0)).keep K11q (ninS (Ne.symm ne_cc_rc) nin0)).keep K16q (ninS (Ne.symm ne_rr_rc) nin0))
  obtain ⟨v20, T20, L20, X20, q20, st20⟩ := c_static X18 hx hZ hown (y := (⟨"java/util/Arrays", "fill", "([JJ)V"⟩ : MethodName)) (hw _ (List.mem_of_getElem? (i := 102) rfl)) (hw _ (List.mem_of_getElem? (i := 103) rfl)) (hw _ (List.mem_of_getElem? (i := 104) rfl)) (hw _ (List.mem_of_getElem? (i := 105) rfl)) (by decide) (argsL := [(.ref rc), (.long (0 : Int64))]) (rest := []) (rmFi l Z a0 hw [] rc nc h16 n0 Z16 f21 g_rc (by omega)) e18 pd_4 rfl (by rw [hml]; rfl) (W := 0) (by show 2 * 0 + _ ≤ _; exact Nat.le_of_eq rfl) (by decide) (by decide) (by decide) (by decide) (hb hby d11_39) (Ls := #[.val (.ref a), .val (.ref gr)])
  generalize e20 : T20.heap = h20 at q20
  obtain ⟨rfl, N20q, K20q, F20q0⟩ := q20
  have N20 := Fr.app N16 N20q
  have Z20 : n0 ≤ h20.size := Nat.le_trans Z16 K20q.1
  have K20 : Keep hI h20 [a, cr, cc, rr, rc] := K16.trans K20q (allS (Or.inl (List.mem_of_getElem? (i := 4) rfl)) all0)
  refine Go.step (st20) ?_
  show Go _ _ _ _ _ _ _ T20 (mkF m 42 #[_, _] [])
  refine Go.step (fun tt kk => XS.aloadN X20.here hx rfl (hb hby d11_42) rfl rfl kk) ?_
  show Go _ _ _ _ _ _ _ T20 (mkF m 43 #[_, _] [(.ref a)])
  refine Go.step (fun tt kk => XS.iconst X20.here hx rfl (hb hby d11_43) kk) ?_
  show Go _ _ _ _ _ _ _ T20 (mkF m 44 #[_, _] [(.int (1 : Int32)), (.ref a)])
  have f23 := (((((Fld.other W1 F_7 (Or.inr (slot_ne (Or.inl (hw _ (List.mem_of_getElem? (i := 107) rfl))) (Or.inl (hw _ (List.mem_of_getElem? (i := 95) rfl))) (by decide) (t := .boolean) (t' := (.object "com/example/gridwright/gridwright/engine/Grid")) (by decide) (by decide)))).keep K4q (ninS ne_a_cr nin0)).keep K11q (ninS ne_a_cc nin0)).keep K16q (ninS ne_a_rr nin0)).keep K20q (ninS ne_a_rc nin0))
  have f24 := (((f13.keep K11q).keep K16q).keep K20q)
  obtain ⟨T22, h22, X22, e22, W22, st22⟩ := putFN X20 hx hZ hown (hw _ (List.mem_of_getElem? (i := 106) rfl)) Via.refl e20 f23 f24 (Or.inl (hw _ (List.mem_of_getElem? (i := 107) rfl))) (hw _ (List.mem_of_getElem? (i := 2) rfl)) (ty := .boolean) (v' := (.int (1 : Int32))) (by decide) rfl rfl (g := (mkF m 44 #[.val (.ref a), .val (.ref gr)] [(.int (1 : Int32)), (.ref a)])) rfl rfl (hb hby d11_44)
  have F22 := Fld.same W22 f23
  have N22 := Fr.snoc X22 N20 g_a
  have Z22 : n0 ≤ h22.size := Nat.le_trans Z20 (Keep.of_wr W22).1
  have K22 : Keep hI h22 [a, cr, cc, rr, rc] := K20.wr W22 (Or.inl (List.mem_of_getElem? (i := 0) rfl))
  refine Go.step (st22) ?_
  show Go _ _ _ _ _ _ _ T22 (mkF m 47 #[_, _] [])
  refine Go.step (fun tt kk => XS.aloadN X22.here hx rfl (hb hby d11_47) rfl rfl kk) ?_
  show Go _ _ _ _ _ _ _ T22 (mkF m 48 #[_, _] [(.ref a)])
  refine Go.step (fun tt kk => XS.iconst X22.here hx rfl (hb hby d11_48) kk) ?_
  show Go _ _ _ _ _ _ _ T22 (mkF m 49 #[_, _] [(.int (0 : Int32)), (.ref a)])
  have f26 := (Fld.other W22 (((((Fld.other W1 F_8 (Or.inr (slot_ne (Or.inl (hw _ (List.mem_of_getElem? (i := 109) rfl))) (Or.inl (hw _ (List.mem_of_getElem? (i := 95) rfl))) (by decide) (t := .int) (t' := (.object "com/example/gridwright/gridwright/engine/Grid")) (by decide) (by decide)))).keep K4q (ninS ne_a_cr nin0)).keep K11q (ninS ne_a_cc nin0)).keep K16q (ninS ne_a_rr nin0)).keep K20q (ninS ne_a_rc nin0)) (Or.inr (slot_ne (Or.inl (hw _ (List.mem_of_getElem? (i := 109) rfl))) (Or.inl (hw _ (List.mem_of_getElem? (i := 107) rfl))) (by decide) (t := .int) (t' := .boolean) (by decide) (by decide))))
  have f27 := (Exa.wr W22 f24)
  obtain ⟨T25, h25, X25, e25, W25, st25⟩ := putF X22 hx hZ hown (host := "") (Or.inl (hw _ (List.mem_of_getElem? (i := 108) rfl))) Via.refl e22 f26 f27 (Or.inl (hw _ (List.mem_of_getElem? (i := 109) rfl))) (hw _ (List.mem_of_getElem? (i := 2) rfl)) (ty := .int) (by decide) rfl rfl (g := (mkF m 49 #[.val (.ref a), .val (.ref gr)] [(.int (0 : Int32)), (.ref a)])) rfl rfl (hb hby d11_49)
  have F25 := Fld.same W25 f26
  have N25 := Fr.snoc X25 N22 g_a
  have Z25 : n0 ≤ h25.size := Nat.le_trans Z22 (Keep.of_wr W25).1
  have K25 : Keep hI h25 [a, cr, cc, rr, rc] := K22.wr W25 (Or.inl (List.mem_of_getElem? (i := 0) rfl))
  refine Go.step (st25) ?_
  show Go _ _ _ _ _ _ _ T25 (mkF m 52 #[_, _] [])
  have f28 := (Exa.wr W25 f27)
  have f29 := (Fld.other W25 (Fld.other W22 (((f10.keep K11q (ninS ne_a_cc nin0)).keep K16q (ninS ne_a_rr nin0)).keep K20q (ninS ne_a_rc nin0)) (Or.inr (slot_ne (Or.inr (hw _ (List.mem_of_getElem? (i := 18) rfl))) (Or.inl (hw _ (List.mem_of_getElem? (i := 107) rfl))) (by decide) (t := .int) (t' := .boolean) (by decide) (by decide)))) (Or.inr (slot_ne (Or.inr (hw _ (List.mem_of_getElem? (i := 18) rfl))) (Or.inl (hw _ (List.mem_of_getElem? (i := 109) rfl))) (by decide) (t := .int) (t' := .int) (by decide) (by decide))))
  have f30 := (Fld.other W25 (Fld.other W22 (((((Fld.other W1 F_1 (Or.inr (slot_ne (Or.inl (hw _ (List.mem_of_getElem? (i := 86) rfl))) (Or.inl (hw _ (List.mem_of_getElem? (i := 95) rfl))) (by decide) (t := .long) (t' := (.object "com/example/gridwright/gridwright/engine/Grid")) (by decide) (by decide)))).keep K4q (ninS ne_a_cr nin0)).keep K11q (ninS ne_a_cc nin0)).keep K16q (ninS ne_a_rr nin0)).keep K20q (ninS ne_a_rc nin0)) (Or.inr (slot_ne (Or.inl (hw _ (List.mem_of_getElem? (i := 86) rfl))) (Or.inl (hw _ (List.mem_of_getElem? (i := 107) rfl))) (by decide) (t := .long) (t' := .boolean) (by decide) (by decide)))) (Or.inr (slot_ne (Or.inl (hw _ (List.mem_of_getElem? (i := 86) rfl))) (Or.inl (hw _ (List.mem_of_getElem? (i := 109) rfl))) (by decide) (t := .long) (t' := .int) (by decide) (by decide))))
  have f31 := (Fld.other W25 (Fld.other W22 ((f15.keep K16q (ninS ne_a_rr nin0)).keep K20q (ninS ne_a_rc nin0)) (Or.inr (slot_ne (Or.inr (hw _ (List.mem_of_getElem? (i := 39) rfl))) (Or.inl (hw _ (List.mem_of_getElem? (i := 107) rfl))) (by decide) (t := (.array .long)) (t' := .boolean) (by decide) (by decide)))) (Or.inr (slot_ne (Or.inr (hw _ (List.mem_of_getElem? (i := 39) rfl))) (Or.inl (hw _ (List.mem_of_getElem? (i := 109) rfl))) (by decide) (t := (.array .long)) (t' := .int) (by decide) (by decide))))
  have f32 := (Fld.other W25 (Fld.other W22 (f19.keep K20q (ninS ne_a_rc nin0)) (Or.inr (slot_ne (Or.inr (hw _ (List.mem_of_getElem? (i := 41) rfl))) (Or.inl (hw _ (List.mem_of_getElem? (i := 107) rfl))) (by decide) (t := (.array .long)) (t' := .boolean) (by decide) (by decide)))) (Or.inr (slot_ne (Or.inr (hw _ (List.mem_of_getElem? (i := 41) rfl))) (Or.inl (hw _ (List.mem_of_getElem? (i := 109) rfl))) (by decide) (t := (.array .long)) (t' := .int) (by decide) (by decide))))
  have f33 := (Fld.other W25 F22 (Or.inr (slot_ne (Or.inl (hw _ (List.mem_of_getElem? (i := 107) rfl))) (Or.inl (hw _ (List.mem_of_getElem? (i := 109) rfl))) (by decide) (t := .boolean) (t' := .int) (by decide) (by decide))))
  have f34 := (((F16q0.keep K20q (ninS ne_rr_rc nin0)).other W22 (Ne.symm ne_a_rr)).other W25 (Ne.symm ne_a_rr))
  have f35 := ((F20q0.other W22 (Ne.symm ne_a_rc)).other W25 (Ne.symm ne_a_rc))
  refine go_ret X25 hx hret hlk (hb hby d11_52) ?_ (by decide) (by decide)
  try rw [e25]
  exact ⟨rfl, N25, eI ▸ K25, f28, f29, f30, f31, f32, f33, F25, f34, f35⟩
theorem ef_rmSt (m : MethodId) (x0 : Addr) (x1 : Addr) : entryFrame m #[(.ref x0), (.ref x1)] 2 = mkF m 0 #[.val (.ref x0), .val (.ref x1)] [] := by first | (simp [entryFrame, mkF, argsToLocals, Value.category]; done) | rfl
theorem d8_0 : decode prog_49_method_3_code 0 = .ok (.aload_n 1, 1) := by decide +kernel
theorem pd_5 : parseMethodDescriptor "()I" = some ⟨[], some .int⟩ := by decide +kernel
theorem d8_1 : decode prog_49_method_3_code 1 = .ok (.invokevirtual 24, 3) := by decide +kernel
theorem d8_4 : decode prog_49_method_3_code 4 = .ok (.aload_n 0, 1) := by decide +kernel
theorem d8_5 : decode prog_49_method_3_code 5 = .ok (.getfield 7, 3) := by decide +kernel
theorem d8_8 : decode prog_49_method_3_code 8 = .ok (.if_icmp .ne 14, 3) := by decide +kernel
theorem d8_11 : decode prog_49_method_3_code 11 = .ok (.aload_n 1, 1) := by decide +kernel
theorem d8_12 : decode prog_49_method_3_code 12 = .ok (.invokevirtual 29, 3) := by decide +kernel
theorem d8_15 : decode prog_49_method_3_code 15 = .ok (.aload_n 0, 1) := by decide +kernel
theorem d8_16 : decode prog_49_method_3_code 16 = .ok (.getfield 13, 3) := by decide +kernel
theorem d8_19 : decode prog_49_method_3_code 19 = .ok (.if_icmp .eq 13, 3) := by decide +kernel
theorem d8_32 : decode prog_49_method_3_code 32 = .ok (.aload_n 0, 1) := by decide +kernel
theorem d8_33 : decode prog_49_method_3_code 33 = .ok (.lconst 0, 1) := by decide +kernel
theorem d8_34 : decode prog_49_method_3_code 34 = .ok (.putfield 38, 3) := by decide +kernel
theorem d8_37 : decode prog_49_method_3_code 37 = .ok (.aload_n 0, 1) := by decide +kernel
theorem d8_38 : decode prog_49_method_3_code 38 = .ok (.iconst 0, 1) := by decide +kernel
theorem d8_39 : decode prog_49_method_3_code 39 = .ok (.putfield 42, 3) := by decide +kernel
theorem d8_42 : decode prog_49_method_3_code 42 = .ok (.aload_n 0, 1) := by decide +kernel
theorem d8_43 : decode prog_49_method_3_code 43 = .ok (.aload_n 1, 1) := by decide +kernel
theorem pd_6 : parseMethodDescriptor "(Lcom/example/gridwright/gridwright/engine/Grid;)V" = some ⟨[(.object "com/example/gridwright/gridwright/engine/Grid")], none⟩ := by decide +kernel
theorem d8_44 : decode prog_49_method_3_code 44 = .ok (.invokevirtual 45, 3) := by decide +kernel
theorem d8_47 : decode prog_49_method_3_code 47 = .ok (.return_, 1) := by decide +kernel
set_option maxRecDepth 65536 in
set_option maxHeartbeats 40000000 in
theorem rmSt (l : Launch) (Z : State) (a0 : Array Value) (hw : ∀ d ∈ tables_1, d.before a0 Z = true) (ws : List Jvm.Cond) (a gr cr cc rr rc : Addr) (W H nr nc : Nat) (tk : Int64) (dc : Int32) (gv : Value) (r0 s0 : Int32) (h0 : Heap) (n0 : Nat) (Z0 : n0 ≤ h0.size) (E_a : Exa Z h0 a "com/example/gridwright/gridwright/engine/LargeDraft") (F_0 : Fld Z h0 a "com/example/gridwright/gridwright/engine/Draft" "width" "I" (.int (Int32.ofNat W))) (F_1 : Fld Z h0 a "com/example/gridwright/gridwright/engine/Draft" "height" "I" (.int (Int32.ofNat H))) (F_2 : Fld Z h0 a "com/example/gridwright/gridwright/engine/Draft" "taken" "J" (.long tk)) (F_3 : Fld Z h0 a "com/example/gridwright/gridwright/engine/Draft" "decided" "I" (.int dc)) (F_4 : Fld Z h0 a "com/example/gridwright/gridwright/engine/LargeDraft" "changedRows" "[J" (.ref cr)) (F_5 : Fld Z h0 a "com/example/gridwright/gridwright/engine/LargeDraft" "changedColumns" "[J" (.ref cc)) (F_6 : Fld Z h0 a "com/example/gridwright/gridwright/engine/LargeDraft" "waitingRows" "[J" (.ref rr)) (F_7 : Fld Z h0 a "com/example/gridwright/gridwright/engine/LargeDraft" "waitingColumns" "[J" (.ref rc)) (F_8 : Fld Z h0 a "com/example/gridwright/gridwright/engine/LargeDraft" "grid" "Lcom/example/gridwright/gridwright/engine/Grid;" gv) (F_9 : Fld Z h0 a "com/example/gridwright/gridwright/engine/LargeDraft" "rows" "Z" (.int r0)) (F_10 : Fld Z h0 a "com/example/gridwright/gridwright/engine/LargeDraft" "scan" "I" (.int s0)) (V_cr : AV Z h0 cr .long nr (lv w0)) (V_cc : AV Z h0 cc .long nc (lv w0)) (V_rr : AV Z h0 rr .long nr (lv w0)) (V_rc : AV Z h0 rc .long nc (lv w0)) (g_a : n0 ≤ a) (g_cr : n0 ≤ cr) (g_cc : n0 ≤ cc) (g_rr : n0 ≤ rr) (g_rc : n0 ≤ rc) (ne_a_cr : a ≠ cr) (ne_a_cc : a ≠ cc) (ne_a_rr : a ≠ rr) (ne_a_rc : a ≠ rc) (ne_cr_cc : cr ≠ cc) (ne_cr_rr : cr ≠ rr) (ne_cr_rc : cr ≠ rc) (ne_cc_rr : cc ≠ rr) (ne_cc_rc : cc ≠ rc) (ne_rr_rc : rr ≠ rc) (E_g : Exa Z h0 gr "com/example/gridwright/gridwright/engine/Grid") (G_width : Fld Z h0 gr "com/example/gridwright/gridwright/engine/Grid" "width" "I" (.int (Int32.ofNat W))) (G_height : Fld Z h0 gr "com/example/gridwright/gridwright/engine/Grid" "height" "I" (.int (Int32.ofNat H))) (ne_a_gr : a ≠ gr) (hnr1 : 1 ≤ nr) (hnr : nr ≤ 2) (hnc1 : 1 ≤ nc) (hnc : nc ≤ 2) :
    Ctr l Z (⟨"com/example/gridwright/gridwright/engine/Draft", "start", "(Lcom/example/gridwright/gridwright/engine/Grid;)V"⟩ : MethodName) prog_49_method_3_code 2 none ws ({ frames := 2, cells := 0, slots := 0, locals := 31 } : Room) 0 0 #[(.ref a), (.ref gr)] h0 (fun v h L => v = none ∧ Fr n0 L ∧ Keep h0 h [a, cr, cc, rr, rc] ∧ Exa Z h a "com/example/gridwright/gridwright/engine/LargeDraft" ∧ Fld Z h a "com/example/gridwright/gridwright/engine/Draft" "height" "I" (.int (Int32.ofNat H)) ∧ Fld Z h a "com/example/gridwright/gridwright/engine/Draft" "taken" "J" (.long (0 : Int64)) ∧ Fld Z h a "com/example/gridwright/gridwright/engine/LargeDraft" "waitingRows" "[J" (.ref rr) ∧ Fld Z h a "com/example/gridwright/gridwright/engine/LargeDraft" "waitingColumns" "[J" (.ref rc) ∧ Fld Z h a "com/example/gridwright/gridwright/engine/LargeDraft" "rows" "Z" (.int (1 : Int32)) ∧ Fld Z h a "com/example/gridwright/gridwright/engine/LargeDraft" "scan" "I" (.int (0 : Int32)) ∧ AV Z h rr .long nr (lv w0) ∧ AV Z h rc .long nc (lv w0)) := by
  refine Ctr.mk (plainFor_of_name pn_3) fun p e s m below meth c T0 X0 C e0 => go_cast (ef_rmSt m a gr) ?_
  have N0 := Fr.nil n0
  obtain ⟨hx, hZ, hby, hml, hown, hnm, hret, hlk⟩ := C
  obtain ⟨hI, eI⟩ : ∃ z, z = h0 := ⟨_, rfl⟩
  have K0 : Keep hI h0 [a, cr, cc, rr, rc] := by rw [eI]; exact Keep.refl _ _
  show Go _ _ _ _ _ _ _ T0 (mkF m 0 #[.val (.ref a), .val (.ref gr)] [])
  refine Go.step (fun tt kk => XS.aloadN X0.here hx rfl (hb hby d8_0) rfl rfl kk) ?_
  show Go _ _ _ _ _ _ _ T0 (mkF m 1 #[_, _] [(.ref gr)])
  obtain ⟨v1, T1, L1, X1, q1, st1⟩ := c_virt X0 hx hZ hown (y' := (⟨"com/example/gridwright/gridwright/engine/Grid", "width", "()I"⟩ : MethodName)) (y := (⟨"com/example/gridwright/gridwright/engine/Grid", "width", "()I"⟩ : MethodName)) (C := "com/example/gridwright/gridwright/engine/Grid") (hw _ (List.mem_of_getElem? (i := 75) rfl)) (hw _ (List.mem_of_getElem? (i := 76) rfl)) (notFace_of_selects (args := #[]) (mvT hZ (hw _ (List.mem_of_getElem? (i := 78) rfl)))) (hw _ (List.mem_of_getElem? (i := 78) rfl)) (hw _ (List.mem_of_getElem? (i := 77) rfl)) (hw _ (List.mem_of_getElem? (i := 25) rfl)) (hw _ (List.mem_of_getElem? (i := 79) rfl)) (by decide) (a := gr) (argsL := []) (rest := []) (rmGwidth l Z a0 hw [] gr (Int32.ofNat W) h0 n0 Z0 G_width) e0 E_g pd_5 rfl (by rw [hml]; rfl) (W := 0) (by show 2 * 0 + _ ≤ _; exact Nat.le_of_eq rfl) (by decide) (by decide) (by decide) (by decide) (hb hby d8_1) (Ls := #[.val (.ref a), .val (.ref gr)])
  obtain ⟨rfl, rfl, e1⟩ := q1
  have N1 := Fr.app N0 (Fr.nil n0)
  refine Go.step (st1) ?_
  show Go _ _ _ _ _ _ _ T1 (mkF m 4 #[_, _] [(.int (Int32.ofNat W))])
  refine Go.step (fun tt kk => XS.aloadN X1.here hx rfl (hb hby d8_4) rfl rfl kk) ?_
  show Go _ _ _ _ _ _ _ T1 (mkF m 5 #[_, _] [(.ref a), (.int (Int32.ofNat W))])
  obtain ⟨T2, X2, e2, st2⟩ := getF X1 hx hZ hown (host := "") (Or.inl (hw _ (List.mem_of_getElem? (i := 15) rfl))) Via.refl e1 F_0 (g := (mkF m 5 #[.val (.ref a), .val (.ref gr)] [(.ref a), (.int (Int32.ofNat W))])) rfl rfl (hb hby d8_5)
  refine Go.step (st2) ?_
  show Go _ _ _ _ _ _ _ T2 (mkF m 8 #[_, _] [(.int (Int32.ofNat W)), (.int (Int32.ofNat W))])
  refine Go.step (fun tt kk => XS.icmpNo X2.here hx rfl (hb hby d8_8) rfl (teq rfl).2 kk) ?_
  show Go _ _ _ _ _ _ _ T2 (mkF m 11 #[_, _] [])
  refine Go.step (fun tt kk => XS.aloadN X2.here hx rfl (hb hby d8_11) rfl rfl kk) ?_
  show Go _ _ _ _ _ _ _ T2 (mkF m 12 #[_, _] [(.ref gr)])
  obtain ⟨v3, T3, L3, X3, q3, st3⟩ := c_virt X2 hx hZ hown (y' := (⟨"com/example/gridwright/gridwright/engine/Grid", "height", "()I"⟩ : MethodName)) (y := (⟨"com/example/gridwright/gridwright/engine/Grid", "height", "()I"⟩ : MethodName)) (C := "com/example/gridwright/gridwright/engine/Grid") (hw _ (List.mem_of_getElem? (i := 80) rfl)) (hw _ (List.mem_of_getElem? (i := 81) rfl)) (notFace_of_selects (args := #[]) (mvT hZ (hw _ (List.mem_of_getElem? (i := 83) rfl)))) (hw _ (List.mem_of_getElem? (i := 83) rfl)) (hw _ (List.mem_of_getElem? (i := 82) rfl)) (hw _ (List.mem_of_getElem? (i := 25) rfl)) (hw _ (List.mem_of_getElem? (i := 84) rfl)) (by decide) (a := gr) (argsL := []) (rest := []) (rmGheight l Z a0 hw [] gr (Int32.ofNat H) h0 n0 Z0 G_height) e2 E_g pd_5 rfl (by rw [hml]; rfl) (W := 0) (by show 2 * 0 + _ ≤ _; exact Nat.le_of_eq rfl) (by decide) (by decide) (by decide) (by decide) (hb hby d8_12) (Ls := #[.val (.ref a), .val (.ref gr)])
  obtain ⟨rfl, rfl, e3⟩ := q3
  have N3 := Fr.app N1 (Fr.nil n0)
  refine Go.step (st3) ?_
  show Go _ _ _ _ _ _ _ T3 (mkF m 15 #[_, _] [(.int (Int32.ofNat H))])
  refine Go.step (fun tt kk => XS.aloadN X3.here hx rfl (hb hby d8_15) rfl rfl kk) ?_
  show Go _ _ _ _ _ _ _ T3 (mkF m 16 #[_, _] [(.ref a), (.int (Int32.ofNat H))])
  obtain ⟨T4, X4, e4, st4⟩ := getF X3 hx hZ hown (host := "") (Or.inl (hw _ (List.mem_of_getElem? (i := 17) rfl))) Via.refl e3 F_1 (g := (mkF m 16 #[.val (.ref a), .val (.ref gr)] [(.ref a), (.int (Int32.ofNat H))])) rfl rfl (hb hby d8_16)
  refine Go.step (st4) ?_
  show Go _ _ _ _ _ _ _ T4 (mkF m 19 #[_, _] [(.int (Int32.ofNat H)), (.int (Int32.ofNat H))])
  refine Go.step (fun tt kk => XS.icmpYes X4.here hx rfl (pc0 := 19) (pc' := 32) rfl (hb hby d8_19) rfl (teq rfl).1 (by decide) (by decide) kk) ?_
  show Go _ _ _ _ _ _ _ T4 (mkF m 32 #[_, _] [])
  refine Go.step (fun tt kk => XS.aloadN X4.here hx rfl (hb hby d8_32) rfl rfl kk) ?_
  show Go _ _ _ _ _ _ _ T4 (mkF m 33 #[_, _] [(.ref a)])
  refine Go.step (fun tt kk => XS.lconst X4.here hx rfl (hb hby d8_33) kk) ?_
  show Go _ _ _ _ _ _ _ T4 (mkF m 34 #[_, _] [(.long (0 : Int64)), (.ref a)])
  obtain ⟨T5, h5, X5, e5, W5, st5⟩ := putF X4 hx hZ hown (host := "") (Or.inl (hw _ (List.mem_of_getElem? (i := 85) rfl))) Via.refl e4 F_2 E_a (Or.inl (hw _ (List.mem_of_getElem? (i := 86) rfl))) (hw _ (List.mem_of_getElem? (i := 2) rfl)) (ty := .long) (by decide) rfl rfl (g := (mkF m 34 #[.val (.ref a), .val (.ref gr)] [(.long (0 : Int64)), (.ref a)])) rfl rfl (hb hby d8_34)
  have F5 := Fld.same W5 F_2
  have N5 := Fr.snoc X5 N3 g_a
  have Z5 : n0 ≤ h5.size := Nat.le_trans Z0 (Keep.of_wr W5).1
  have K5 : Keep hI h5 [a, cr, cc, rr, rc] := K0.wr W5 (Or.inl (List.mem_of_getElem? (i := 0) rfl))
  refine Go.step (st5) ?_
  show Go _ _ _ _ _ _ _ T5 (mkF m 37 #[_, _] [])
  refine Go.step (fun tt kk => XS.aloadN X5.here hx rfl (hb hby d8_37) rfl rfl kk) ?_
  show Go _ _ _ _ _ _ _ T5 (mkF m 38 #[_, _] [(.ref a)])
  refine Go.step (fun tt kk => XS.iconst X5.here hx rfl (hb hby d8_38) kk) ?_
  show Go _ _ _ _ _ _ _ T5 (mkF m 39 #[_, _] [(.int (0 : Int32)), (.ref a)])
  have f7 := (Fld.other W5 F_3 (Or.inr (slot_ne (Or.inl (hw _ (List.mem_of_getElem? (i := 88) rfl))) (Or.inl (hw _ (List.mem_of_getElem? (i := 86) rfl))) (by decide) (t := .int) (t' := .long) (by decide) (by decide))))
  have f8 := (Exa.wr W5 E_a)
  obtain ⟨T6, h6, X6, e6, W6, st6⟩ := putF X5 hx hZ hown (host := "") (Or.inl (hw _ (List.mem_of_getElem? (i := 87) rfl))) Via.refl e5 f7 f8 (Or.inl (hw _ (List.mem_of_getElem? (i := 88) rfl))) (hw _ (List.mem_of_getElem? (i := 2) rfl)) (ty := .int) (by decide) rfl rfl (g := (mkF m 39 #[.val (.ref a), .val (.ref gr)] [(.int (0 : Int32)), (.ref a)])) rfl rfl (hb hby d8_39)
  have F6 := Fld.same W6 f7
  have N6 := Fr.snoc X6 N5 g_a
  have Z6 : n0 ≤ h6.size := Nat.le_trans Z5 (Keep.of_wr W6).1
  have K6 : Keep hI h6 [a, cr, cc, rr, rc] := K5.wr W6 (Or.inl (List.mem_of_getElem? (i := 0) rfl))
  refine Go.step (st6) ?_
  show Go _ _ _ _ _ _ _ T6 (mkF m 42 #[_, _] [])
  refine Go.step (fun tt kk => XS.aloadN X6.here hx rfl (hb hby d8_42) rfl rfl kk) ?_
  show Go _ _ _ _ _ _ _ T6 (mkF m 43 #[_, _] [(.ref a)])
  refine Go.step (fun tt kk => XS.aloadN X6.here hx rfl (hb hby d8_43) rfl rfl kk) ?_
  show Go _ _ _ _ _ _ _ T6 (mkF m 44 #[_, _] [(.ref gr), (.ref a)])
  have f10 := (Exa.wr W6 f8)
  have f11 := (Fld.other W6 (Fld.other W5 F_1 (Or.inr (slot_ne (Or.inr (hw _ (List.mem_of_getElem? (i := 18) rfl))) (Or.inl (hw _ (List.mem_of_getElem? (i := 86) rfl))) (by decide) (t := .int) (t' := .long) (by decide) (by decide)))) (Or.inr (slot_ne (Or.inr (hw _ (List.mem_of_getElem? (i := 18) rfl))) (Or.inl (hw _ (List.mem_of_getElem? (i := 88) rfl))) (by decide) (t := .int) (t' := .int) (by decide) (by decide))))
  have f12 := (Fld.other W6 F5 (Or.inr (slot_ne (Or.inl (hw _ (List.mem_of_getElem? (i := 86) rfl))) (Or.inl (hw _ (List.mem_of_getElem? (i := 88) rfl))) (by decide) (t := .long) (t' := .int) (by decide) (by decide))))
  have f13 := (Fld.other W6 (Fld.other W5 F_4 (Or.inr (slot_ne (Or.inr (hw _ (List.mem_of_getElem? (i := 35) rfl))) (Or.inl (hw _ (List.mem_of_getElem? (i := 86) rfl))) (by decide) (t := (.array .long)) (t' := .long) (by decide) (by decide)))) (Or.inr (slot_ne (Or.inr (hw _ (List.mem_of_getElem? (i := 35) rfl))) (Or.inl (hw _ (List.mem_of_getElem? (i := 88) rfl))) (by decide) (t := (.array .long)) (t' := .int) (by decide) (by decide))))
  have f14 := (Fld.other W6 (Fld.other W5 F_5 (Or.inr (slot_ne (Or.inr (hw _ (List.mem_of_getElem? (i := 37) rfl))) (Or.inl (hw _ (List.mem_of_getElem? (i := 86) rfl))) (by decide) (t := (.array .long)) (t' := .long) (by decide) (by decide)))) (Or.inr (slot_ne (Or.inr (hw _ (List.mem_of_getElem? (i := 37) rfl))) (Or.inl (hw _ (List.mem_of_getElem? (i := 88) rfl))) (by decide) (t := (.array .long)) (t' := .int) (by decide) (by decide))))
  have f15 := (Fld.other W6 (Fld.other W5 F_6 (Or.inr (slot_ne (Or.inr (hw _ (List.mem_of_getElem? (i := 39) rfl))) (Or.inl (hw _ (List.mem_of_getElem? (i := 86) rfl))) (by decide) (t := (.array .long)) (t' := .long) (by decide) (by decide)))) (Or.inr (slot_ne (Or.inr (hw _ (List.mem_of_getElem? (i := 39) rfl))) (Or.inl (hw _ (List.mem_of_getElem? (i := 88) rfl))) (by decide) (t := (.array .long)) (t' := .int) (by decide) (by decide))))
  have f16 := (Fld.other W6 (Fld.other W5 F_7 (Or.inr (slot_ne (Or.inr (hw _ (List.mem_of_getElem? (i := 41) rfl))) (Or.inl (hw _ (List.mem_of_getElem? (i := 86) rfl))) (by decide) (t := (.array .long)) (t' := .long) (by decide) (by decide)))) (Or.inr (slot_ne (Or.inr (hw _ (List.mem_of_getElem? (i := 41) rfl))) (Or.inl (hw _ (List.mem_of_getElem? (i := 88) rfl))) (by decide) (t := (.array .long)) (t' := .int) (by decide) (by decide))))
  have f17 := (Fld.other W6 (Fld.other W5 F_8 (Or.inr (slot_ne (Or.inl (hw _ (List.mem_of_getElem? (i := 95) rfl))) (Or.inl (hw _ (List.mem_of_getElem? (i := 86) rfl))) (by decide) (t := (.object "com/example/gridwright/gridwright/engine/Grid")) (t' := .long) (by decide) (by decide)))) (Or.inr (slot_ne (Or.inl (hw _ (List.mem_of_getElem? (i := 95) rfl))) (Or.inl (hw _ (List.mem_of_getElem? (i := 88) rfl))) (by decide) (t := (.object "com/example/gridwright/gridwright/engine/Grid")) (t' := .int) (by decide) (by decide))))
  have f18 := (Fld.other W6 (Fld.other W5 F_9 (Or.inr (slot_ne (Or.inl (hw _ (List.mem_of_getElem? (i := 107) rfl))) (Or.inl (hw _ (List.mem_of_getElem? (i := 86) rfl))) (by decide) (t := .boolean) (t' := .long) (by decide) (by decide)))) (Or.inr (slot_ne (Or.inl (hw _ (List.mem_of_getElem? (i := 107) rfl))) (Or.inl (hw _ (List.mem_of_getElem? (i := 88) rfl))) (by decide) (t := .boolean) (t' := .int) (by decide) (by decide))))
  have f19 := (Fld.other W6 (Fld.other W5 F_10 (Or.inr (slot_ne (Or.inl (hw _ (List.mem_of_getElem? (i := 109) rfl))) (Or.inl (hw _ (List.mem_of_getElem? (i := 86) rfl))) (by decide) (t := .int) (t' := .long) (by decide) (by decide)))) (Or.inr (slot_ne (Or.inl (hw _ (List.mem_of_getElem? (i := 109) rfl))) (Or.inl (hw _ (List.mem_of_getElem? (i := 88) rfl))) (by decide) (t := .int) (t' := .int) (by decide) (by decide))))
  have f20 := ((V_cr.other W5 (Ne.symm ne_a_cr)).other W6 (Ne.symm ne_a_cr))
  have f21 := ((V_cc.other W5 (Ne.symm ne_a_cc)).other W6 (Ne.symm ne_a_cc))
  have f22 := ((V_rr.other W5 (Ne.symm ne_a_rr)).other W6 (Ne.symm ne_a_rr))
  have f23 := ((V_rc.other W5 (Ne.symm ne_a_rc)).other W6 (Ne.symm ne_a_rc))
  obtain ⟨v9, T9, L9, X9, q9, st9⟩ := c_virt X6 hx hZ hown (y' := (⟨"com/example/gridwright/gridwright/engine/Draft", "startOver", "(Lcom/example/gridwright/gridwright/engine/Grid;)V"⟩ : MethodName)) (y := (⟨"com/example/gridwright/gridwright/engine/LargeDraft", "startOver", "(Lcom/example/gridwright/gridwright/engine/Grid;)V"⟩ : MethodName)) (C := "com/example/gridwright/gridwright/engine/LargeDraft") (hw _ (List.mem_of_getElem? (i := 89) rfl)) (hw _ (List.mem_of_getElem? (i := 90) rfl)) (own_nf (mvT (args := #[]) hZ (hw _ (List.mem_of_getElem? (i := 73) rfl))) rfl) (hw _ (List.mem_of_getElem? (i := 91) rfl)) (hw _ (List.mem_of_getElem? (i := 92) rfl)) (hw _ (List.mem_of_getElem? (i := 3) rfl)) (hw _ (List.mem_of_getElem? (i := 93) rfl)) (by decide) (a := a) (argsL := [(.ref gr)]) (rest := []) (rmSo l Z a0 hw [] a gr cr cc rr rc H nr nc (0 : Int64) gv r0 s0 h6 n0 Z6 f10 f11 f12 f13 f14 f15 f16 f17 f18 f19 f20 f21 f22 f23 g_a g_cr g_cc g_rr g_rc ne_a_cr ne_a_cc ne_a_rr ne_a_rc ne_cr_cc ne_cr_rr ne_cr_rc ne_cc_rr ne_cc_rc ne_rr_rc (by omega) (by omega) (by omega) (by omega)) e6 f10 pd_6 rfl (by rw [hml]; rfl) (W := 0) (by show 2 * 0 + _ ≤ _; exact Nat.le_of_eq rfl) (by decide) (by decide) (by decide) (by decide) (hb hby d8_44) (Ls := #[.val (.ref a), .val (.ref gr)])
  generalize e9 : T9.heap = h9 at q9
  obtain ⟨rfl, N9q, K9q, F9q0, F9q1, F9q2, F9q3, F9q4, F9q5, F9q6, F9q7, F9q8⟩ := q9
  have N9 := Fr.app N6 N9q
  have Z9 : n0 ≤ h9.size := Nat.le_trans Z6 K9q.1
  have K9 : Keep hI h9 [a, cr, cc, rr, rc] := K6.trans K9q (allS (Or.inl (List.mem_of_getElem? (i := 0) rfl)) (allS (Or.inl (List.mem_of_getElem? (i := 1) rfl)) (allS (Or.inl (List.mem_of_getElem? (i := 2) rfl)) (allS (Or.inl (List.mem_of_getElem? (i := 3) rfl)) (allS (Or.inl (List.mem_of_getElem? (i := 4) rfl)) all0)))))
  refine Go.step (st9) ?_
  show Go _ _ _ _ _ _ _ T9 (mkF m 47 #[_, _] [])
  refine go_ret X9 hx hret hlk (hb hby d8_47) ?_ (by decide) (by decide)
  try rw [e9]
  exact ⟨rfl, N9, eI ▸ K9, F9q0, F9q1, F9q2, F9q3, F9q4, F9q5, F9q6, F9q7, F9q8⟩
theorem ef_rmAr (m : MethodId) (x0 : Addr) (x1 : Int32) : entryFrame m #[(.ref x0), (.int x1)] 2 = mkF m 0 #[.val (.ref x0), .val (.int x1)] [] := by first | (simp [entryFrame, mkF, argsToLocals, Value.category]; done) | rfl
theorem d14_0 : decode prog_61_method_6_code 0 = .ok (.iload_n 1, 1) := by decide +kernel
theorem d14_1 : decode prog_61_method_6_code 1 = .ok (.aload_n 0, 1) := by decide +kernel
theorem d14_2 : decode prog_61_method_6_code 2 = .ok (.getfield 52, 3) := by decide +kernel
theorem d14_5 : decode prog_61_method_6_code 5 = .ok (.if_icmp .ge 21, 3) := by decide +kernel
theorem d14_8 : decode prog_61_method_6_code 8 = .ok (.aload_n 0, 1) := by decide +kernel
theorem d14_9 : decode prog_61_method_6_code 9 = .ok (.getfield 38, 3) := by decide +kernel
theorem d14_12 : decode prog_61_method_6_code 12 = .ok (.iload_n 1, 1) := by decide +kernel
theorem d14_13 : decode prog_61_method_6_code 13 = .ok (.bipush 6, 2) := by decide +kernel
theorem d14_15 : decode prog_61_method_6_code 15 = .ok (.iushr, 1) := by decide +kernel
theorem d14_16 : decode prog_61_method_6_code 16 = .ok (.dup2, 1) := by decide +kernel
theorem d14_17 : decode prog_61_method_6_code 17 = .ok (.laload, 1) := by decide +kernel
theorem d14_18 : decode prog_61_method_6_code 18 = .ok (.lconst 1, 1) := by decide +kernel
theorem d14_19 : decode prog_61_method_6_code 19 = .ok (.iload_n 1, 1) := by decide +kernel
theorem d14_20 : decode prog_61_method_6_code 20 = .ok (.lshl, 1) := by decide +kernel
theorem d14_21 : decode prog_61_method_6_code 21 = .ok (.lor, 1) := by decide +kernel
theorem d14_22 : decode prog_61_method_6_code 22 = .ok (.lastore, 1) := by decide +kernel
theorem d14_23 : decode prog_61_method_6_code 23 = .ok (.goto 28, 3) := by decide +kernel
theorem d14_51 : decode prog_61_method_6_code 51 = .ok (.return_, 1) := by decide +kernel
set_option maxRecDepth 65536 in
set_option maxHeartbeats 40000000 in
theorem rmAr (l : Launch) (Z : State) (a0 : Array Value) (hw : ∀ d ∈ tables_1, d.before a0 Z = true) (ws : List Jvm.Cond) (a rr : Addr) (H X nr : Nat) (F : Nat → Int64) (h0 : Heap) (n0 : Nat) (Z0 : n0 ≤ h0.size) (E_a : Exa Z h0 a "com/example/gridwright/gridwright/engine/LargeDraft") (F_0 : Fld Z h0 a "com/example/gridwright/gridwright/engine/Draft" "height" "I" (.int (Int32.ofNat H))) (F_1 : Fld Z h0 a "com/example/gridwright/gridwright/engine/LargeDraft" "waitingRows" "[J" (.ref rr)) (V_rr : AV Z h0 rr .long nr (lv F)) (g_a : n0 ≤ a) (g_rr : n0 ≤ rr) (ne_a_rr : a ≠ rr) (hX0 : X < 256) (hH9 : H < 256) (hX : X < H) (hi : X / 64 < nr) :
    Ctr l Z (⟨"com/example/gridwright/gridwright/engine/LargeDraft", "await", "(I)V"⟩ : MethodName) prog_61_method_6_code 2 none ws ({ frames := 0, cells := 0, slots := 0, locals := 0 } : Room) 0 0 #[(.ref a), (.int (Int32.ofNat X))] h0 (fun v h L => v = none ∧ Fr n0 L ∧ Keep h0 h [rr] ∧ AV Z h rr .long nr (lv (orAt F (X / 64) (sh (Int32.ofNat X))))) := by
  refine Ctr.mk (plainFor_of_name pn_4) fun p e s m below meth c T0 X0 C e0 => go_cast (ef_rmAr m a (Int32.ofNat X)) ?_
  have N0 := Fr.nil n0
  obtain ⟨hx, hZ, hby, hml, hown, hnm, hret, hlk⟩ := C
  obtain ⟨hI, eI⟩ : ∃ z, z = h0 := ⟨_, rfl⟩
  have K0 : Keep hI h0 [rr] := by rw [eI]; exact Keep.refl _ _
  show Go _ _ _ _ _ _ _ T0 (mkF m 0 #[.val (.ref a), .val (.int (Int32.ofNat X))] [])
  refine Go.step (fun tt kk => XS.iloadN X0.here hx rfl (hb hby d14_0) rfl kk) ?_
  show Go _ _ _ _ _ _ _ T0 (mkF m 1 #[_, _] [(.int (Int32.ofNat X))])
  refine Go.step (fun tt kk => XS.aloadN X0.here hx rfl (hb hby d14_1) rfl rfl kk) ?_
  show Go _ _ _ _ _ _ _ T0 (mkF m 2 #[_, _] [(.ref a), (.int (Int32.ofNat X))])
  obtain ⟨T1, X1, e1, st1⟩ := getF X0 hx hZ hown (host := "") (Or.inl (hw _ (List.mem_of_getElem? (i := 100) rfl))) (Via.of (hw _ (List.mem_of_getElem? (i := 101) rfl))) e0 F_0 (g := (mkF m 2 #[.val (.ref a), .val (.int (Int32.ofNat X))] [(.ref a), (.int (Int32.ofNat X))])) rfl rfl (hb hby d14_2)
  refine Go.step (st1) ?_
  show Go _ _ _ _ _ _ _ T1 (mkF m 5 #[_, _] [(.int (Int32.ofNat H)), (.int (Int32.ofNat X))])
  refine Go.step (fun tt kk => XS.icmpNo X1.here hx rfl (hb hby d14_5) rfl (tlt ((own_lt X H (by omega) (by omega)).mpr hX)).2.1 kk) ?_
  show Go _ _ _ _ _ _ _ T1 (mkF m 8 #[_, _] [])
  refine Go.step (fun tt kk => XS.aloadN X1.here hx rfl (hb hby d14_8) rfl rfl kk) ?_
  show Go _ _ _ _ _ _ _ T1 (mkF m 9 #[_, _] [(.ref a)])
  obtain ⟨T2, X2, e2, st2⟩ := getF X1 hx hZ hown (host := "") (Or.inl (hw _ (List.mem_of_getElem? (i := 38) rfl))) Via.refl e1 F_1 (g := (mkF m 9 #[.val (.ref a), .val (.int (Int32.ofNat X))] [(.ref a)])) rfl rfl (hb hby d14_9)
  refine Go.step (st2) ?_
  show Go _ _ _ _ _ _ _ T2 (mkF m 12 #[_, _] [(.ref rr)])
  refine Go.step (fun tt kk => XS.iloadN X2.here hx rfl (hb hby d14_12) rfl kk) ?_
  show Go _ _ _ _ _ _ _ T2 (mkF m 13 #[_, _] [(.int (Int32.ofNat X)), (.ref rr)])
  refine Go.step (fun tt kk => XS.bipush X2.here hx rfl (hb hby d14_13) kk) ?_
  show Go _ _ _ _ _ _ _ T2 (mkF m 15 #[_, _] [(.int (6 : Int32)), (.int (Int32.ofNat X)), (.ref rr)])
  refine Go.step (fun tt kk => XS.iushr X2.here hx rfl (hb hby d14_15) rfl kk) ?_
  show Go _ _ _ _ _ _ _ T2 (mkF m 16 #[_, _] [(.int (((Int32.ofNat X).toUInt32 >>> ((6 : Int32) &&& 31).toUInt32).toInt32)), (.ref rr)])
  rw [show ((Int32.ofNat X).toUInt32 >>> ((6 : Int32) &&& 31).toUInt32).toInt32 = Int32.ofNat (X / 64) from own_sh6 X (by omega)]
  show Go _ _ _ _ _ _ _ T2 (mkF m 16 #[.val (.ref a), .val (.int (Int32.ofNat X))] [(.int (Int32.ofNat (X / 64))), (.ref rr)])
  refine Go.step (fun tt kk => by jvm_step X2.here [X2.here.top, hx, (hb hby d14_16), Value.category]; exact kk) ?_
  show Go _ _ _ _ _ _ _ T2 (mkF m 17 #[_, _] [(.int (Int32.ofNat (X / 64))), (.ref rr), (.int (Int32.ofNat (X / 64))), (.ref rr)])
  refine Go.step (a_jload X2 hx hZ e2 V_rr (k := (X / 64)) (Int32.toInt_ofNat_of_lt (by omega)) hi (x := (F (X / 64))) rfl (hb hby d14_17)) ?_
  show Go _ _ _ _ _ _ _ T2 (mkF m 18 #[_, _] [(.long (F (X / 64))), (.int (Int32.ofNat (X / 64))), (.ref rr)])
  refine Go.step (fun tt kk => XS.lconst X2.here hx rfl (hb hby d14_18) kk) ?_
  show Go _ _ _ _ _ _ _ T2 (mkF m 19 #[_, _] [(.long (1 : Int64)), (.long (F (X / 64))), (.int (Int32.ofNat (X / 64))), (.ref rr)])
  refine Go.step (fun tt kk => XS.iloadN X2.here hx rfl (hb hby d14_19) rfl kk) ?_
  show Go _ _ _ _ _ _ _ T2 (mkF m 20 #[_, _] [(.int (Int32.ofNat X)), (.long (1 : Int64)), (.long (F (X / 64))), (.int (Int32.ofNat (X / 64))), (.ref rr)])
  refine Go.step (fun tt kk => XS.lshl X2.here hx rfl (hb hby d14_20) rfl kk) ?_
  show Go _ _ _ _ _ _ _ T2 (mkF m 21 #[_, _] [(.long ((1 : Int64) <<< ((Int32.ofNat X) &&& 0x3f).toInt64)), (.long (F (X / 64))), (.int (Int32.ofNat (X / 64))), (.ref rr)])
  refine Go.step (fun tt kk => XS.lor X2.here hx rfl (hb hby d14_21) rfl kk) ?_
  show Go _ _ _ _ _ _ _ T2 (mkF m 22 #[_, _] [(.long ((F (X / 64)) ||| ((1 : Int64) <<< ((Int32.ofNat X) &&& 0x3f).toInt64))), (.int (Int32.ofNat (X / 64))), (.ref rr)])
  obtain ⟨cl3, Ar3, hin3, -⟩ := V_rr.at (j := (Int32.ofNat (X / 64))) (k := (X / 64)) (Int32.toInt_ofNat_of_lt (by omega)) hi
  obtain ⟨T3, h3, X3, e3, W3, st3⟩ := stJ X2 hx hZ e2 Ar3 (j := (Int32.ofNat (X / 64))) hin3 (g := (mkF m 22 #[.val (.ref a), .val (.int (Int32.ofNat X))] [(.long ((F (X / 64)) ||| ((1 : Int64) <<< ((Int32.ofNat X) &&& 0x3f).toInt64))), (.int (Int32.ofNat (X / 64))), (.ref rr)])) rfl rfl (hb hby d14_22)
  have V3 : AV Z h3 rr .long nr (upd (lv F) (X / 64) (.long ((F (X / 64)) ||| ((1 : Int64) <<< ((Int32.ofNat X) &&& 0x3f).toInt64)))) := AV.set V_rr (k := (X / 64)) (Int32.toInt_ofNat_of_lt (by omega)) hi W3
  have N3 := Fr.snoc X3 N0 g_rr
  have Z3 : n0 ≤ h3.size := Nat.le_trans Z0 (Keep.of_wr W3).1
  have K3 : Keep hI h3 [rr] := K0.wr W3 (Or.inl (List.mem_of_getElem? (i := 0) rfl))
  refine Go.step (st3) ?_
  show Go _ _ _ _ _ _ _ T3 (mkF m 23 #[_, _] [])
  refine Go.step (fun tt kk => XS.goto X3.here hx rfl (pc0 := 23) (pc' := 51) rfl (hb hby d14_23) (by decide) (by decide) kk) ?_
  show Go _ _ _ _ _ _ _ T3 (mkF m 51 #[_, _] [])
  refine go_ret X3 hx hret hlk (hb hby d14_51) ?_ (by decide) (by decide)
  try rw [e3]
  exact ⟨rfl, N3, eI ▸ K3, (AV.congr (g := lv (orAt F (X / 64) (sh (Int32.ofNat X)))) V3 fun i hi => by
      by_cases q : i = X / 64
      · subst q; exact upd_eq.trans (congrArg Value.long (if_pos rfl).symm)
      · exact (upd_ne q).trans (congrArg Value.long (if_neg q).symm))⟩
theorem ef_rmAc (m : MethodId) (x0 : Addr) (x1 : Int32) : entryFrame m #[(.ref x0), (.int x1)] 2 = mkF m 0 #[.val (.ref x0), .val (.int x1)] [] := by first | (simp [entryFrame, mkF, argsToLocals, Value.category]; done) | rfl
theorem d14_26 : decode prog_61_method_6_code 26 = .ok (.aload_n 0, 1) := by decide +kernel
theorem d14_27 : decode prog_61_method_6_code 27 = .ok (.getfield 41, 3) := by decide +kernel
theorem d14_30 : decode prog_61_method_6_code 30 = .ok (.iload_n 1, 1) := by decide +kernel
theorem d14_31 : decode prog_61_method_6_code 31 = .ok (.aload_n 0, 1) := by decide +kernel
theorem d14_32 : decode prog_61_method_6_code 32 = .ok (.getfield 52, 3) := by decide +kernel
theorem d14_35 : decode prog_61_method_6_code 35 = .ok (.isub, 1) := by decide +kernel
theorem d14_36 : decode prog_61_method_6_code 36 = .ok (.bipush 6, 2) := by decide +kernel
theorem d14_38 : decode prog_61_method_6_code 38 = .ok (.iushr, 1) := by decide +kernel
theorem d14_39 : decode prog_61_method_6_code 39 = .ok (.dup2, 1) := by decide +kernel
theorem d14_40 : decode prog_61_method_6_code 40 = .ok (.laload, 1) := by decide +kernel
theorem d14_41 : decode prog_61_method_6_code 41 = .ok (.lconst 1, 1) := by decide +kernel
theorem d14_42 : decode prog_61_method_6_code 42 = .ok (.iload_n 1, 1) := by decide +kernel
theorem d14_43 : decode prog_61_method_6_code 43 = .ok (.aload_n 0, 1) := by decide +kernel
theorem d14_44 : decode prog_61_method_6_code 44 = .ok (.getfield 52, 3) := by decide +kernel
theorem d14_47 : decode prog_61_method_6_code 47 = .ok (.isub, 1) := by decide +kernel
theorem d14_48 : decode prog_61_method_6_code 48 = .ok (.lshl, 1) := by decide +kernel
theorem d14_49 : decode prog_61_method_6_code 49 = .ok (.lor, 1) := by decide +kernel
theorem d14_50 : decode prog_61_method_6_code 50 = .ok (.lastore, 1) := by decide +kernel
set_option maxRecDepth 65536 in
set_option maxHeartbeats 40000000 in
theorem rmAc (l : Launch) (Z : State) (a0 : Array Value) (hw : ∀ d ∈ tables_1, d.before a0 Z = true) (ws : List Jvm.Cond) (a rc : Addr) (H X nc : Nat) (F : Nat → Int64) (h0 : Heap) (n0 : Nat) (Z0 : n0 ≤ h0.size) (E_a : Exa Z h0 a "com/example/gridwright/gridwright/engine/LargeDraft") (F_0 : Fld Z h0 a "com/example/gridwright/gridwright/engine/Draft" "height" "I" (.int (Int32.ofNat H))) (F_1 : Fld Z h0 a "com/example/gridwright/gridwright/engine/LargeDraft" "waitingColumns" "[J" (.ref rc)) (V_rc : AV Z h0 rc .long nc (lv F)) (g_a : n0 ≤ a) (g_rc : n0 ≤ rc) (ne_a_rc : a ≠ rc) (hX0 : X < 256) (hH9 : H < 256) (hX : ¬ X < H) (hi : (X - H) / 64 < nc) :
    Ctr l Z (⟨"com/example/gridwright/gridwright/engine/LargeDraft", "await", "(I)V"⟩ : MethodName) prog_61_method_6_code 2 none ws ({ frames := 0, cells := 0, slots := 0, locals := 0 } : Room) 0 0 #[(.ref a), (.int (Int32.ofNat X))] h0 (fun v h L => v = none ∧ Fr n0 L ∧ Keep h0 h [rc] ∧ AV Z h rc .long nc (lv (orAt F ((X - H) / 64) (sh (Int32.ofNat (X - H)))))) := by
  refine Ctr.mk (plainFor_of_name pn_4) fun p e s m below meth c T0 X0 C e0 => go_cast (ef_rmAc m a (Int32.ofNat X)) ?_
  have N0 := Fr.nil n0
  obtain ⟨hx, hZ, hby, hml, hown, hnm, hret, hlk⟩ := C
  obtain ⟨hI, eI⟩ : ∃ z, z = h0 := ⟨_, rfl⟩
  have K0 : Keep hI h0 [rc] := by rw [eI]; exact Keep.refl _ _
  show Go _ _ _ _ _ _ _ T0 (mkF m 0 #[.val (.ref a), .val (.int (Int32.ofNat X))] [])
  refine Go.step (fun tt kk => XS.iloadN X0.here hx rfl (hb hby d14_0) rfl kk) ?_
  show Go _ _ _ _ _ _ _ T0 (mkF m 1 #[_, _] [(.int (Int32.ofNat X))])
  refine Go.step (fun tt kk => XS.aloadN X0.here hx rfl (hb hby d14_1) rfl rfl kk) ?_
  show Go _ _ _ _ _ _ _ T0 (mkF m 2 #[_, _] [(.ref a), (.int (Int32.ofNat X))])
  obtain ⟨T1, X1, e1, st1⟩ := getF X0 hx hZ hown (host := "") (Or.inl (hw _ (List.mem_of_getElem? (i := 100) rfl))) (Via.of (hw _ (List.mem_of_getElem? (i := 101) rfl))) e0 F_0 (g := (mkF m 2 #[.val (.ref a), .val (.int (Int32.ofNat X))] [(.ref a), (.int (Int32.ofNat X))])) rfl rfl (hb hby d14_2)
  refine Go.step (st1) ?_
  show Go _ _ _ _ _ _ _ T1 (mkF m 5 #[_, _] [(.int (Int32.ofNat H)), (.int (Int32.ofNat X))])
  refine Go.step (fun tt kk => XS.icmpYes X1.here hx rfl (pc0 := 5) (pc' := 26) rfl (hb hby d14_5) rfl (flt (mt (own_lt X H (by omega) (by omega)).mp hX)).2.1 (by decide) (by decide) kk) ?_
  show Go _ _ _ _ _ _ _ T1 (mkF m 26 #[_, _] [])
  refine Go.step (fun tt kk => XS.aloadN X1.here hx rfl (hb hby d14_26) rfl rfl kk) ?_
  show Go _ _ _ _ _ _ _ T1 (mkF m 27 #[_, _] [(.ref a)])
  obtain ⟨T2, X2, e2, st2⟩ := getF X1 hx hZ hown (host := "") (Or.inl (hw _ (List.mem_of_getElem? (i := 40) rfl))) Via.refl e1 F_1 (g := (mkF m 27 #[.val (.ref a), .val (.int (Int32.ofNat X))] [(.ref a)])) rfl rfl (hb hby d14_27)
  refine Go.step (st2) ?_
  show Go _ _ _ _ _ _ _ T2 (mkF m 30 #[_, _] [(.ref rc)])
  refine Go.step (fun tt kk => XS.iloadN X2.here hx rfl (hb hby d14_30) rfl kk) ?_
  show Go _ _ _ _ _ _ _ T2 (mkF m 31 #[_, _] [(.int (Int32.ofNat X)), (.ref rc)])
  refine Go.step (fun tt kk => XS.aloadN X2.here hx rfl (hb hby d14_31) rfl rfl kk) ?_
  show Go _ _ _ _ _ _ _ T2 (mkF m 32 #[_, _] [(.ref a), (.int (Int32.ofNat X)), (.ref rc)])
  obtain ⟨T3, X3, e3, st3⟩ := getF X2 hx hZ hown (host := "") (Or.inl (hw _ (List.mem_of_getElem? (i := 100) rfl))) (Via.of (hw _ (List.mem_of_getElem? (i := 101) rfl))) e2 F_0 (g := (mkF m 32 #[.val (.ref a), .val (.int (Int32.ofNat X))] [(.ref a), (.int (Int32.ofNat X)), (.ref rc)])) rfl rfl (hb hby d14_32)
  refine Go.step (st3) ?_
  show Go _ _ _ _ _ _ _ T3 (mkF m 35 #[_, _] [(.int (Int32.ofNat H)), (.int (Int32.ofNat X)), (.ref rc)])
  refine Go.step (fun tt kk => XS.isub X3.here hx rfl (hb hby d14_35) rfl kk) ?_
  show Go _ _ _ _ _ _ _ T3 (mkF m 36 #[_, _] [(.int ((Int32.ofNat X) - (Int32.ofNat H))), (.ref rc)])
  rw [own_sub X H (by omega) (by omega)]
  show Go _ _ _ _ _ _ _ T3 (mkF m 36 #[.val (.ref a), .val (.int (Int32.ofNat X))] [(.int (Int32.ofNat (X - H))), (.ref rc)])
  refine Go.step (fun tt kk => XS.bipush X3.here hx rfl (hb hby d14_36) kk) ?_
  show Go _ _ _ _ _ _ _ T3 (mkF m 38 #[_, _] [(.int (6 : Int32)), (.int (Int32.ofNat (X - H))), (.ref rc)])
  refine Go.step (fun tt kk => XS.iushr X3.here hx rfl (hb hby d14_38) rfl kk) ?_
  show Go _ _ _ _ _ _ _ T3 (mkF m 39 #[_, _] [(.int (((Int32.ofNat (X - H)).toUInt32 >>> ((6 : Int32) &&& 31).toUInt32).toInt32)), (.ref rc)])
  rw [show ((Int32.ofNat (X - H)).toUInt32 >>> ((6 : Int32) &&& 31).toUInt32).toInt32 = Int32.ofNat ((X - H) / 64) from own_sh6 (X - H) (by omega)]
  show Go _ _ _ _ _ _ _ T3 (mkF m 39 #[.val (.ref a), .val (.int (Int32.ofNat X))] [(.int (Int32.ofNat ((X - H) / 64))), (.ref rc)])
  refine Go.step (fun tt kk => by jvm_step X3.here [X3.here.top, hx, (hb hby d14_39), Value.category]; exact kk) ?_
  show Go _ _ _ _ _ _ _ T3 (mkF m 40 #[_, _] [(.int (Int32.ofNat ((X - H) / 64))), (.ref rc), (.int (Int32.ofNat ((X - H) / 64))), (.ref rc)])
  refine Go.step (a_jload X3 hx hZ e3 V_rc (k := ((X - H) / 64)) (Int32.toInt_ofNat_of_lt (by omega)) hi (x := (F ((X - H) / 64))) rfl (hb hby d14_40)) ?_
  show Go _ _ _ _ _ _ _ T3 (mkF m 41 #[_, _] [(.long (F ((X - H) / 64))), (.int (Int32.ofNat ((X - H) / 64))), (.ref rc)])
  refine Go.step (fun tt kk => XS.lconst X3.here hx rfl (hb hby d14_41) kk) ?_
  show Go _ _ _ _ _ _ _ T3 (mkF m 42 #[_, _] [(.long (1 : Int64)), (.long (F ((X - H) / 64))), (.int (Int32.ofNat ((X - H) / 64))), (.ref rc)])
  refine Go.step (fun tt kk => XS.iloadN X3.here hx rfl (hb hby d14_42) rfl kk) ?_
  show Go _ _ _ _ _ _ _ T3 (mkF m 43 #[_, _] [(.int (Int32.ofNat X)), (.long (1 : Int64)), (.long (F ((X - H) / 64))), (.int (Int32.ofNat ((X - H) / 64))), (.ref rc)])
  refine Go.step (fun tt kk => XS.aloadN X3.here hx rfl (hb hby d14_43) rfl rfl kk) ?_
  show Go _ _ _ _ _ _ _ T3 (mkF m 44 #[_, _] [(.ref a), (.int (Int32.ofNat X)), (.long (1 : Int64)), (.long (F ((X - H) / 64))), (.int (Int32.ofNat ((X - H) / 64))), (.ref rc)])
  obtain ⟨T4, X4, e4, st4⟩ := getF X3 hx hZ hown (host := "") (Or.inl (hw _ (List.mem_of_getElem? (i := 100) rfl))) (Via.of (hw _ (List.mem_of_getElem? (i := 101) rfl))) e3 F_0 (g := (mkF m 44 #[.val (.ref a), .val (.int (Int32.ofNat X))] [(.ref a), (.int (Int32.ofNat X)), (.long (1 : Int64)), (.long (F ((X - H) / 64))), (.int (Int32.ofNat ((X - H) / 64))), (.ref rc)])) rfl rfl (hb hby d14_44)
  refine Go.step (st4) ?_
  show Go _ _ _ _ _ _ _ T4 (mkF m 47 #[_, _] [(.int (Int32.ofNat H)), (.int (Int32.ofNat X)), (.long (1 : Int64)), (.long (F ((X - H) / 64))), (.int (Int32.ofNat ((X - H) / 64))), (.ref rc)])
  refine Go.step (fun tt kk => XS.isub X4.here hx rfl (hb hby d14_47) rfl kk) ?_
  show Go _ _ _ _ _ _ _ T4 (mkF m 48 #[_, _] [(.int ((Int32.ofNat X) - (Int32.ofNat H))), (.long (1 : Int64)), (.long (F ((X - H) / 64))), (.int (Int32.ofNat ((X - H) / 64))), (.ref rc)])
  rw [own_sub X H (by omega) (by omega)]
  show Go _ _ _ _ _ _ _ T4 (mkF m 48 #[.val (.ref a), .val (.int (Int32.ofNat X))] [(.int (Int32.ofNat (X - H))), (.long (1 : Int64)), (.long (F ((X - H) / 64))), (.int (Int32.ofNat ((X - H) / 64))), (.ref rc)])
  refine Go.step (fun tt kk => XS.lshl X4.here hx rfl (hb hby d14_48) rfl kk) ?_
  show Go _ _ _ _ _ _ _ T4 (mkF m 49 #[_, _] [(.long ((1 : Int64) <<< ((Int32.ofNat (X - H)) &&& 0x3f).toInt64)), (.long (F ((X - H) / 64))), (.int (Int32.ofNat ((X - H) / 64))), (.ref rc)])
  refine Go.step (fun tt kk => XS.lor X4.here hx rfl (hb hby d14_49) rfl kk) ?_
  show Go _ _ _ _ _ _ _ T4 (mkF m 50 #[_, _] [(.long ((F ((X - H) / 64)) ||| ((1 : Int64) <<< ((Int32.ofNat (X - H)) &&& 0x3f).toInt64))), (.int (Int32.ofNat ((X - H) / 64))), (.ref rc)])
  obtain ⟨cl5, Ar5, hin5, -⟩ := V_rc.at (j := (Int32.ofNat ((X - H) / 64))) (k := ((X - H) / 64)) (Int32.toInt_ofNat_of_lt (by omega)) hi
  obtain ⟨T5, h5, X5, e5, W5, st5⟩ := stJ X4 hx hZ e4 Ar5 (j := (Int32.ofNat ((X - H) / 64))) hin5 (g := (mkF m 50 #[.val (.ref a), .val (.int (Int32.ofNat X))] [(.long ((F ((X - H) / 64)) ||| ((1 : Int64) <<< ((Int32.ofNat (X - H)) &&& 0x3f).toInt64))), (.int (Int32.ofNat ((X - H) / 64))), (.ref rc)])) rfl rfl (hb hby d14_50)
  have V5 : AV Z h5 rc .long nc (upd (lv F) ((X - H) / 64) (.long ((F ((X - H) / 64)) ||| ((1 : Int64) <<< ((Int32.ofNat (X - H)) &&& 0x3f).toInt64)))) := AV.set V_rc (k := ((X - H) / 64)) (Int32.toInt_ofNat_of_lt (by omega)) hi W5
  have N5 := Fr.snoc X5 N0 g_rc
  have Z5 : n0 ≤ h5.size := Nat.le_trans Z0 (Keep.of_wr W5).1
  have K5 : Keep hI h5 [rc] := K0.wr W5 (Or.inl (List.mem_of_getElem? (i := 0) rfl))
  refine Go.step (st5) ?_
  show Go _ _ _ _ _ _ _ T5 (mkF m 51 #[_, _] [])
  refine go_ret X5 hx hret hlk (hb hby d14_51) ?_ (by decide) (by decide)
  try rw [e5]
  exact ⟨rfl, N5, eI ▸ K5, (AV.congr (g := lv (orAt F ((X - H) / 64) (sh (Int32.ofNat (X - H))))) V5 fun i hi => by
      by_cases q : i = (X - H) / 64
      · subst q; exact upd_eq.trans (congrArg Value.long (if_pos rfl).symm)
      · exact (upd_ne q).trans (congrArg Value.long (if_neg q).symm))⟩
theorem ef_rmNf1 (m : MethodId) (x0 : Addr) : entryFrame m #[(.ref x0)] 5 = mkF m 0 #[.val (.ref x0), .unset, .unset, .unset, .unset] [] := by first | (simp [entryFrame, mkF, argsToLocals, Value.category]; done) | rfl
theorem d15_0 : decode prog_61_method_7_code 0 = .ok (.iconst 0, 1) := by decide +kernel
theorem d15_1 : decode prog_61_method_7_code 1 = .ok (.istore_n 1, 1) := by decide +kernel
theorem d15_2 : decode prog_61_method_7_code 2 = .ok (.iload_n 1, 1) := by decide +kernel
theorem d15_3 : decode prog_61_method_7_code 3 = .ok (.iconst 2, 1) := by decide +kernel
theorem d15_4 : decode prog_61_method_7_code 4 = .ok (.if_icmp .ge 152, 3) := by decide +kernel
theorem d15_7 : decode prog_61_method_7_code 7 = .ok (.aload_n 0, 1) := by decide +kernel
theorem d15_8 : decode prog_61_method_7_code 8 = .ok (.getfield 61, 3) := by decide +kernel
theorem d15_11 : decode prog_61_method_7_code 11 = .ok (.ifCond .eq 10, 3) := by decide +kernel
theorem d15_14 : decode prog_61_method_7_code 14 = .ok (.aload_n 0, 1) := by decide +kernel
theorem d15_15 : decode prog_61_method_7_code 15 = .ok (.getfield 38, 3) := by decide +kernel
theorem d15_18 : decode prog_61_method_7_code 18 = .ok (.goto 7, 3) := by decide +kernel
theorem d15_25 : decode prog_61_method_7_code 25 = .ok (.astore_n 2, 1) := by decide +kernel
theorem d15_26 : decode prog_61_method_7_code 26 = .ok (.aload_n 0, 1) := by decide +kernel
theorem d15_27 : decode prog_61_method_7_code 27 = .ok (.getfield 65, 3) := by decide +kernel
theorem d15_30 : decode prog_61_method_7_code 30 = .ok (.aload_n 2, 1) := by decide +kernel
theorem d15_31 : decode prog_61_method_7_code 31 = .ok (.arraylength, 1) := by decide +kernel
theorem d15_32 : decode prog_61_method_7_code 32 = .ok (.if_icmp .ge 97, 3) := by decide +kernel
theorem d15_35 : decode prog_61_method_7_code 35 = .ok (.aload_n 2, 1) := by decide +kernel
theorem d15_36 : decode prog_61_method_7_code 36 = .ok (.aload_n 0, 1) := by decide +kernel
theorem d15_37 : decode prog_61_method_7_code 37 = .ok (.getfield 65, 3) := by decide +kernel
theorem d15_40 : decode prog_61_method_7_code 40 = .ok (.laload, 1) := by decide +kernel
theorem d15_41 : decode prog_61_method_7_code 41 = .ok (.lconst 0, 1) := by decide +kernel
theorem d15_42 : decode prog_61_method_7_code 42 = .ok (.lcmp, 1) := by decide +kernel
theorem d15_43 : decode prog_61_method_7_code 43 = .ok (.ifCond .eq 73, 3) := by decide +kernel
theorem d15_46 : decode prog_61_method_7_code 46 = .ok (.bipush 64, 2) := by decide +kernel
theorem d15_48 : decode prog_61_method_7_code 48 = .ok (.aload_n 0, 1) := by decide +kernel
theorem d15_49 : decode prog_61_method_7_code 49 = .ok (.getfield 65, 3) := by decide +kernel
theorem d15_52 : decode prog_61_method_7_code 52 = .ok (.imul, 1) := by decide +kernel
theorem d15_53 : decode prog_61_method_7_code 53 = .ok (.aload_n 2, 1) := by decide +kernel
theorem d15_54 : decode prog_61_method_7_code 54 = .ok (.aload_n 0, 1) := by decide +kernel
theorem d15_55 : decode prog_61_method_7_code 55 = .ok (.getfield 65, 3) := by decide +kernel
theorem d15_58 : decode prog_61_method_7_code 58 = .ok (.laload, 1) := by decide +kernel
theorem pd_7 : parseMethodDescriptor "(J)I" = some ⟨[.long], some .int⟩ := by decide +kernel
theorem d15_59 : decode prog_61_method_7_code 59 = .ok (.invokestatic 90, 3) := by decide +kernel
theorem d15_62 : decode prog_61_method_7_code 62 = .ok (.iadd, 1) := by decide +kernel
theorem d15_63 : decode prog_61_method_7_code 63 = .ok (.istore_n 3, 1) := by decide +kernel
theorem d15_64 : decode prog_61_method_7_code 64 = .ok (.aload_n 2, 1) := by decide +kernel
theorem d15_65 : decode prog_61_method_7_code 65 = .ok (.aload_n 0, 1) := by decide +kernel
theorem d15_66 : decode prog_61_method_7_code 66 = .ok (.getfield 65, 3) := by decide +kernel
theorem d15_69 : decode prog_61_method_7_code 69 = .ok (.dup2, 1) := by decide +kernel
theorem d15_70 : decode prog_61_method_7_code 70 = .ok (.laload, 1) := by decide +kernel
theorem d15_71 : decode prog_61_method_7_code 71 = .ok (.aload_n 2, 1) := by decide +kernel
theorem d15_72 : decode prog_61_method_7_code 72 = .ok (.aload_n 0, 1) := by decide +kernel
theorem d15_73 : decode prog_61_method_7_code 73 = .ok (.getfield 65, 3) := by decide +kernel
theorem d15_76 : decode prog_61_method_7_code 76 = .ok (.laload, 1) := by decide +kernel
theorem d15_77 : decode prog_61_method_7_code 77 = .ok (.lconst 1, 1) := by decide +kernel
theorem d15_78 : decode prog_61_method_7_code 78 = .ok (.lsub, 1) := by decide +kernel
theorem d15_79 : decode prog_61_method_7_code 79 = .ok (.land, 1) := by decide +kernel
theorem d15_80 : decode prog_61_method_7_code 80 = .ok (.lastore, 1) := by decide +kernel
theorem d15_81 : decode prog_61_method_7_code 81 = .ok (.aload_n 0, 1) := by decide +kernel
theorem d15_82 : decode prog_61_method_7_code 82 = .ok (.getfield 61, 3) := by decide +kernel
theorem d15_85 : decode prog_61_method_7_code 85 = .ok (.ifCond .eq 7, 3) := by decide +kernel
theorem d15_88 : decode prog_61_method_7_code 88 = .ok (.iload_n 3, 1) := by decide +kernel
theorem d15_89 : decode prog_61_method_7_code 89 = .ok (.goto 9, 3) := by decide +kernel
theorem d15_98 : decode prog_61_method_7_code 98 = .ok (.istore 4, 2) := by decide +kernel
theorem d15_100 : decode prog_61_method_7_code 100 = .ok (.aload_n 0, 1) := by decide +kernel
theorem d15_101 : decode prog_61_method_7_code 101 = .ok (.dup, 1) := by decide +kernel
theorem d15_102 : decode prog_61_method_7_code 102 = .ok (.getfield 93, 3) := by decide +kernel
theorem d15_105 : decode prog_61_method_7_code 105 = .ok (.lconst 1, 1) := by decide +kernel
theorem d15_106 : decode prog_61_method_7_code 106 = .ok (.iload 4, 2) := by decide +kernel
theorem d15_108 : decode prog_61_method_7_code 108 = .ok (.lshl, 1) := by decide +kernel
theorem d15_109 : decode prog_61_method_7_code 109 = .ok (.lor, 1) := by decide +kernel
theorem d15_110 : decode prog_61_method_7_code 110 = .ok (.putfield 93, 3) := by decide +kernel
theorem d15_113 : decode prog_61_method_7_code 113 = .ok (.iload 4, 2) := by decide +kernel
theorem d15_115 : decode prog_61_method_7_code 115 = .ok (.ireturn, 1) := by decide +kernel
theorem d15_116 : decode prog_61_method_7_code 116 = .ok (.aload_n 0, 1) := by decide +kernel
theorem d15_117 : decode prog_61_method_7_code 117 = .ok (.dup, 1) := by decide +kernel
theorem d15_118 : decode prog_61_method_7_code 118 = .ok (.getfield 65, 3) := by decide +kernel
theorem d15_121 : decode prog_61_method_7_code 121 = .ok (.iconst 1, 1) := by decide +kernel
theorem d15_122 : decode prog_61_method_7_code 122 = .ok (.iadd, 1) := by decide +kernel
theorem d15_123 : decode prog_61_method_7_code 123 = .ok (.putfield 65, 3) := by decide +kernel
theorem d15_126 : decode prog_61_method_7_code 126 = .ok (.goto (-100), 3) := by decide +kernel
set_option maxRecDepth 65536 in
set_option maxHeartbeats 40000000 in
theorem rmNf1 (l : Launch) (Z : State) (a0 : Array Value) (hw : ∀ d ∈ tables_1, d.before a0 Z = true) (ws : List Jvm.Cond) (a rr rc : Addr) (H nr nc k K : Nat) (tk : Int64) (F G : Nat → Int64) (h0 : Heap) (n0 : Nat) (Z0 : n0 ≤ h0.size) (E_a : Exa Z h0 a "com/example/gridwright/gridwright/engine/LargeDraft") (F_0 : Fld Z h0 a "com/example/gridwright/gridwright/engine/Draft" "height" "I" (.int (Int32.ofNat H))) (F_1 : Fld Z h0 a "com/example/gridwright/gridwright/engine/Draft" "taken" "J" (.long tk)) (F_2 : Fld Z h0 a "com/example/gridwright/gridwright/engine/LargeDraft" "waitingRows" "[J" (.ref rr)) (F_3 : Fld Z h0 a "com/example/gridwright/gridwright/engine/LargeDraft" "waitingColumns" "[J" (.ref rc)) (F_4 : Fld Z h0 a "com/example/gridwright/gridwright/engine/LargeDraft" "rows" "Z" (.int (1 : Int32))) (F_5 : Fld Z h0 a "com/example/gridwright/gridwright/engine/LargeDraft" "scan" "I" (.int (Int32.ofNat k))) (V_rr : AV Z h0 rr .long nr (lv F)) (V_rc : AV Z h0 rc .long nc (lv G)) (g_a : n0 ≤ a) (g_rr : n0 ≤ rr) (g_rc : n0 ≤ rc) (ne_a_rr : a ≠ rr) (ne_a_rc : a ≠ rc) (ne_rr_rc : rr ≠ rc) (hnr : nr ≤ 2) (hnc : nc ≤ 2) (hk : k ≤ K) (hK : K < nr) (hz0 : ∀ j, k ≤ j → j < K → F j = 0) (hnz : ¬ F K = 0) :
    Ctr l Z (⟨"com/example/gridwright/gridwright/engine/LargeDraft", "next", "()I"⟩ : MethodName) prog_61_method_7_code 5 (some .int) ws ({ frames := 2, cells := 0, slots := 0, locals := 29 } : Room) 0 0 #[(.ref a)] h0 (fun v h L => ∃ tk' : Int64, v = some (.int ((64 : Int32) * Int32.ofNat K + ntz (F K))) ∧ Fr n0 L ∧ Keep h0 h [a, rr, rc] ∧ Exa Z h a "com/example/gridwright/gridwright/engine/LargeDraft" ∧ Fld Z h a "com/example/gridwright/gridwright/engine/Draft" "height" "I" (.int (Int32.ofNat H)) ∧ Fld Z h a "com/example/gridwright/gridwright/engine/Draft" "taken" "J" (.long tk') ∧ Fld Z h a "com/example/gridwright/gridwright/engine/LargeDraft" "waitingRows" "[J" (.ref rr) ∧ Fld Z h a "com/example/gridwright/gridwright/engine/LargeDraft" "waitingColumns" "[J" (.ref rc) ∧ Fld Z h a "com/example/gridwright/gridwright/engine/LargeDraft" "rows" "Z" (.int (1 : Int32)) ∧ Fld Z h a "com/example/gridwright/gridwright/engine/LargeDraft" "scan" "I" (.int (Int32.ofNat K)) ∧ AV Z h rr .long nr (lv (loAt F K)) ∧ AV Z h rc .long nc (lv G)) := by
  refine Ctr.mk (plainFor_of_name pn_4) fun p e s m below meth c T0 X0 C e0 => go_cast (ef_rmNf1 m a) ?_
  have N0 := Fr.nil n0
  obtain ⟨hx, hZ, hby, hml, hown, hnm, hret, hlk⟩ := C
  obtain ⟨hI, eI⟩ : ∃ z, z = h0 := ⟨_, rfl⟩
  have K0 : Keep hI h0 [a, rr, rc] := by rw [eI]; exact Keep.refl _ _
  show Go _ _ _ _ _ _ _ T0 (mkF m 0 #[.val (.ref a), .unset, .unset, .unset, .unset] [])
  refine Go.step (fun tt kk => XS.iconst X0.here hx rfl (hb hby d15_0) kk) ?_
  show Go _ _ _ _ _ _ _ T0 (mkF m 1 #[_, _, _, _, _] [(.int (0 : Int32))])
  refine Go.step (fun tt kk => XS.istoreN X0.here hx rfl (hb hby d15_1) rfl (l' := #[.val (.ref a), .val (.int (0 : Int32)), .unset, .unset, .unset]) rfl kk) ?_
  show Go _ _ _ _ _ _ _ T0 (mkF m 2 #[_, _, _, _, _] [])
  refine Go.step (fun tt kk => XS.iloadN X0.here hx rfl (hb hby d15_2) rfl kk) ?_
  show Go _ _ _ _ _ _ _ T0 (mkF m 3 #[_, _, _, _, _] [(.int (0 : Int32))])
  refine Go.step (fun tt kk => XS.iconst X0.here hx rfl (hb hby d15_3) kk) ?_
  show Go _ _ _ _ _ _ _ T0 (mkF m 4 #[_, _, _, _, _] [(.int (2 : Int32)), (.int (0 : Int32))])
  refine Go.step (fun tt kk => XS.icmpNo X0.here hx rfl (hb hby d15_4) rfl (tlt (by decide)).2.1 kk) ?_
  show Go _ _ _ _ _ _ _ T0 (mkF m 7 #[_, _, _, _, _] [])
  refine Go.step (fun tt kk => XS.aloadN X0.here hx rfl (hb hby d15_7) rfl rfl kk) ?_
  show Go _ _ _ _ _ _ _ T0 (mkF m 8 #[_, _, _, _, _] [(.ref a)])
  obtain ⟨T1, X1, e1, st1⟩ := getF X0 hx hZ hown (host := "") (Or.inl (hw _ (List.mem_of_getElem? (i := 106) rfl))) Via.refl e0 F_4 (g := (mkF m 8 #[.val (.ref a), .val (.int (0 : Int32)), .unset, .unset, .unset] [(.ref a)])) rfl rfl (hb hby d15_8)
  refine Go.step (st1) ?_
  show Go _ _ _ _ _ _ _ T1 (mkF m 11 #[_, _, _, _, _] [(.int (1 : Int32))])
  refine Go.step (fun tt kk => XS.ifNo X1.here hx rfl (hb hby d15_11) rfl ((if0 _ _).trans (feq (by decide)).1) kk) ?_
  show Go _ _ _ _ _ _ _ T1 (mkF m 14 #[_, _, _, _, _] [])
  refine Go.step (fun tt kk => XS.aloadN X1.here hx rfl (hb hby d15_14) rfl rfl kk) ?_
  show Go _ _ _ _ _ _ _ T1 (mkF m 15 #[_, _, _, _, _] [(.ref a)])
  obtain ⟨T2, X2, e2, st2⟩ := getF X1 hx hZ hown (host := "") (Or.inl (hw _ (List.mem_of_getElem? (i := 38) rfl))) Via.refl e1 F_2 (g := (mkF m 15 #[.val (.ref a), .val (.int (0 : Int32)), .unset, .unset, .unset] [(.ref a)])) rfl rfl (hb hby d15_15)
  refine Go.step (st2) ?_
  show Go _ _ _ _ _ _ _ T2 (mkF m 18 #[_, _, _, _, _] [(.ref rr)])
  refine Go.step (fun tt kk => XS.goto X2.here hx rfl (pc0 := 18) (pc' := 25) rfl (hb hby d15_18) (by decide) (by decide) kk) ?_
  show Go _ _ _ _ _ _ _ T2 (mkF m 25 #[_, _, _, _, _] [(.ref rr)])
  refine Go.step (fun tt kk => XS.astoreN X2.here hx rfl (hb hby d15_25) rfl rfl (l' := #[.val (.ref a), .val (.int (0 : Int32)), .val (.ref rr), .unset, .unset]) rfl kk) ?_
  show Go _ _ _ _ _ _ _ T2 (mkF m 26 #[_, _, _, _, _] [])
  have f3 : Fld Z h0 a "com/example/gridwright/gridwright/engine/LargeDraft" "scan" "I" (.int (Int32.ofNat (K - (K - k)))) := by
    have q := F_5
    rw [show K - (K - k) = k by omega]; exact q
  have lp0_26 : ∀ (u : Nat)  (T26_lp0_ : State) (lc26_lp0_ : List Loc) (hh26_lp0_ : Heap) (X26_lp0_ : Stand p l e ({ frames := 2, cells := 0, slots := 0, locals := 29 } : Room) s m #[(.ref a)] below meth c T26_lp0_ lc26_lp0_ 0 0) (e26_lp0_ : T26_lp0_.heap = hh26_lp0_) (N26_lp0_ : Fr n0 lc26_lp0_) (Z26_lp0_ : n0 ≤ hh26_lp0_.size) (K26_lp0_ : Keep hI hh26_lp0_ [a, rr, rc]) (f26_lp0__0 : Exa Z hh26_lp0_ a "com/example/gridwright/gridwright/engine/LargeDraft") (f26_lp0__1 : Fld Z hh26_lp0_ a "com/example/gridwright/gridwright/engine/Draft" "height" "I" (.int (Int32.ofNat H))) (f26_lp0__2 : Fld Z hh26_lp0_ a "com/example/gridwright/gridwright/engine/Draft" "taken" "J" (.long tk)) (f26_lp0__3 : Fld Z hh26_lp0_ a "com/example/gridwright/gridwright/engine/LargeDraft" "waitingRows" "[J" (.ref rr)) (f26_lp0__4 : Fld Z hh26_lp0_ a "com/example/gridwright/gridwright/engine/LargeDraft" "waitingColumns" "[J" (.ref rc)) (f26_lp0__5 : Fld Z hh26_lp0_ a "com/example/gridwright/gridwright/engine/LargeDraft" "rows" "Z" (.int (1 : Int32))) (f26_lp0__6 : Fld Z hh26_lp0_ a "com/example/gridwright/gridwright/engine/LargeDraft" "scan" "I" (.int (Int32.ofNat (K - u)))) (f26_lp0__7 : AV Z hh26_lp0_ rr .long nr (lv F)) (f26_lp0__8 : AV Z hh26_lp0_ rc .long nc (lv G)) (hu0 : u + k ≤ K),
      Go p e s below 0 0 (fun v h L => ∃ tk' : Int64, v = some (.int ((64 : Int32) * Int32.ofNat K + ntz (F K))) ∧ Fr n0 L ∧ Keep h0 h [a, rr, rc] ∧ Exa Z h a "com/example/gridwright/gridwright/engine/LargeDraft" ∧ Fld Z h a "com/example/gridwright/gridwright/engine/Draft" "height" "I" (.int (Int32.ofNat H)) ∧ Fld Z h a "com/example/gridwright/gridwright/engine/Draft" "taken" "J" (.long tk') ∧ Fld Z h a "com/example/gridwright/gridwright/engine/LargeDraft" "waitingRows" "[J" (.ref rr) ∧ Fld Z h a "com/example/gridwright/gridwright/engine/LargeDraft" "waitingColumns" "[J" (.ref rc) ∧ Fld Z h a "com/example/gridwright/gridwright/engine/LargeDraft" "rows" "Z" (.int (1 : Int32)) ∧ Fld Z h a "com/example/gridwright/gridwright/engine/LargeDraft" "scan" "I" (.int (Int32.ofNat K)) ∧ AV Z h rr .long nr (lv (loAt F K)) ∧ AV Z h rc .long nc (lv G)) T26_lp0_ (mkF m 26 #[.val (.ref a), .val (.int (0 : Int32)), .val (.ref rr), .unset, .unset] []) := by
    intro u
    induction u with
    | zero =>
      intro  T26_lp0_ lc26_lp0_ hh26_lp0_ X26_lp0_ e26_lp0_ N26_lp0_ Z26_lp0_ K26_lp0_ f26_lp0__0 f26_lp0__1 f26_lp0__2 f26_lp0__3 f26_lp0__4 f26_lp0__5 f26_lp0__6 f26_lp0__7 f26_lp0__8 hu0
      show Go _ _ _ _ _ _ _ T26_lp0_ (mkF m 26 #[.val (.ref a), .val (.int (0 : Int32)), .val (.ref rr), .unset, .unset] [])
      refine Go.step (fun tt kk => XS.aloadN X26_lp0_.here hx rfl (hb hby d15_26) rfl rfl kk) ?_
      show Go _ _ _ _ _ _ _ T26_lp0_ (mkF m 27 #[_, _, _, _, _] [(.ref a)])
      obtain ⟨T4, X4, e4, st4⟩ := getF X26_lp0_ hx hZ hown (host := "") (Or.inl (hw _ (List.mem_of_getElem? (i := 108) rfl))) Via.refl e26_lp0_ f26_lp0__6 (g := (mkF m 27 #[.val (.ref a), .val (.int (0 : Int32)), .val (.ref rr), .unset, .unset] [(.ref a)])) rfl rfl (hb hby d15_27)
      refine Go.step (st4) ?_
      show Go _ _ _ _ _ _ _ T4 (mkF m 30 #[_, _, _, _, _] [(.int (Int32.ofNat K))])
      refine Go.step (fun tt kk => XS.aloadN X4.here hx rfl (hb hby d15_30) rfl rfl kk) ?_
      show Go _ _ _ _ _ _ _ T4 (mkF m 31 #[_, _, _, _, _] [(.ref rr), (.int (Int32.ofNat K))])
      refine Go.step (a_len X4 hx hZ e4 f26_lp0__7 (z := (Int32.ofNat nr)) (Int32.toInt_ofNat_of_lt (by omega)) (hb hby d15_31)) ?_
      show Go _ _ _ _ _ _ _ T4 (mkF m 32 #[_, _, _, _, _] [(.int (Int32.ofNat nr)), (.int (Int32.ofNat K))])
      refine Go.step (fun tt kk => XS.icmpNo X4.here hx rfl (hb hby d15_32) rfl (tlt ((own_lt K nr (by omega) (by omega)).mpr hK)).2.1 kk) ?_
      show Go _ _ _ _ _ _ _ T4 (mkF m 35 #[_, _, _, _, _] [])
      refine Go.step (fun tt kk => XS.aloadN X4.here hx rfl (hb hby d15_35) rfl rfl kk) ?_
      show Go _ _ _ _ _ _ _ T4 (mkF m 36 #[_, _, _, _, _] [(.ref rr)])
      refine Go.step (fun tt kk => XS.aloadN X4.here hx rfl (hb hby d15_36) rfl rfl kk) ?_
      show Go _ _ _ _ _ _ _ T4 (mkF m 37 #[_, _, _, _, _] [(.ref a), (.ref rr)])
      obtain ⟨T5, X5, e5, st5⟩ := getF X4 hx hZ hown (host := "") (Or.inl (hw _ (List.mem_of_getElem? (i := 108) rfl))) Via.refl e4 f26_lp0__6 (g := (mkF m 37 #[.val (.ref a), .val (.int (0 : Int32)), .val (.ref rr), .unset, .unset] [(.ref a), (.ref rr)])) rfl rfl (hb hby d15_37)
      refine Go.step (st5) ?_
      show Go _ _ _ _ _ _ _ T5 (mkF m 40 #[_, _, _, _, _] [(.int (Int32.ofNat K)), (.ref rr)])
      refine Go.step (a_jload X5 hx hZ e5 f26_lp0__7 (k := K) (Int32.toInt_ofNat_of_lt (by omega)) hK (x := (F K)) rfl (hb hby d15_40)) ?_
      show Go _ _ _ _ _ _ _ T5 (mkF m 41 #[_, _, _, _, _] [(.long (F K))])
      refine Go.step (fun tt kk => XS.lconst X5.here hx rfl (hb hby d15_41) kk) ?_
      show Go _ _ _ _ _ _ _ T5 (mkF m 42 #[_, _, _, _, _] [(.long (0 : Int64)), (.long (F K))])
      refine Go.step (fun tt kk => XS.lcmp X5.here hx rfl (hb hby d15_42) rfl kk) ?_
      show Go _ _ _ _ _ _ _ T5 (mkF m 43 #[_, _, _, _, _] [(.int (lcmpW (F K) (0 : Int64)))])
      refine Go.step (fun tt kk => XS.ifNo X5.here hx rfl (hb hby d15_43) rfl ((if0 _ _).trans (feq (fun q => hnz ((lw_eq _ _).mp q))).1) kk) ?_
      show Go _ _ _ _ _ _ _ T5 (mkF m 46 #[_, _, _, _, _] [])
      refine Go.step (fun tt kk => XS.bipush X5.here hx rfl (hb hby d15_46) kk) ?_
      show Go _ _ _ _ _ _ _ T5 (mkF m 48 #[_, _, _, _, _] [(.int (64 : Int32))])
      refine Go.step (fun tt kk => XS.aloadN X5.here hx rfl (hb hby d15_48) rfl rfl kk) ?_
      show Go _ _ _ _ _ _ _ T5 (mkF m 49 #[_, _, _, _, _] [(.ref a), (.int (64 : Int32))])
      obtain ⟨T6, X6, e6, st6⟩ := getF X5 hx hZ hown (host := "") (Or.inl (hw _ (List.mem_of_getElem? (i := 108) rfl))) Via.refl e5 f26_lp0__6 (g := (mkF m 49 #[.val (.ref a), .val (.int (0 : Int32)), .val (.ref rr), .unset, .unset] [(.ref a), (.int (64 : Int32))])) rfl rfl (hb hby d15_49)
      refine Go.step (st6) ?_
      show Go _ _ _ _ _ _ _ T6 (mkF m 52 #[_, _, _, _, _] [(.int (Int32.ofNat K)), (.int (64 : Int32))])
      refine Go.step (fun tt kk => XS.imul X6.here hx rfl (hb hby d15_52) rfl kk) ?_
      show Go _ _ _ _ _ _ _ T6 (mkF m 53 #[_, _, _, _, _] [(.int ((64 : Int32) * (Int32.ofNat K)))])
      refine Go.step (fun tt kk => XS.aloadN X6.here hx rfl (hb hby d15_53) rfl rfl kk) ?_
      show Go _ _ _ _ _ _ _ T6 (mkF m 54 #[_, _, _, _, _] [(.ref rr), (.int ((64 : Int32) * (Int32.ofNat K)))])
      refine Go.step (fun tt kk => XS.aloadN X6.here hx rfl (hb hby d15_54) rfl rfl kk) ?_
      show Go _ _ _ _ _ _ _ T6 (mkF m 55 #[_, _, _, _, _] [(.ref a), (.ref rr), (.int ((64 : Int32) * (Int32.ofNat K)))])
      obtain ⟨T7, X7, e7, st7⟩ := getF X6 hx hZ hown (host := "") (Or.inl (hw _ (List.mem_of_getElem? (i := 108) rfl))) Via.refl e6 f26_lp0__6 (g := (mkF m 55 #[.val (.ref a), .val (.int (0 : Int32)), .val (.ref rr), .unset, .unset] [(.ref a), (.ref rr), (.int ((64 : Int32) * (Int32.ofNat K)))])) rfl rfl (hb hby d15_55)
      refine Go.step (st7) ?_
      show Go _ _ _ _ _ _ _ T7 (mkF m 58 #[_, _, _, _, _] [(.int (Int32.ofNat K)), (.ref rr), (.int ((64 : Int32) * (Int32.ofNat K)))])
      refine Go.step (a_jload X7 hx hZ e7 f26_lp0__7 (k := K) (Int32.toInt_ofNat_of_lt (by omega)) hK (x := (F K)) rfl (hb hby d15_58)) ?_
      show Go _ _ _ _ _ _ _ T7 (mkF m 59 #[_, _, _, _, _] [(.long (F K)), (.int ((64 : Int32) * (Int32.ofNat K)))])
      obtain ⟨v8, T8, L8, X8, q8, st8⟩ := c_static X7 hx hZ hown (y := (⟨"java/lang/Long", "numberOfTrailingZeros", "(J)I"⟩ : MethodName)) (hw _ (List.mem_of_getElem? (i := 120) rfl)) (hw _ (List.mem_of_getElem? (i := 121) rfl)) (hw _ (List.mem_of_getElem? (i := 122) rfl)) (hw _ (List.mem_of_getElem? (i := 123) rfl)) (by decide) (argsL := [(.long (F K))]) (rest := [(.int ((64 : Int32) * (Int32.ofNat K)))]) (rmtl l Z a0 hw [] (F K) hh26_lp0_ n0 Z26_lp0_) e7 pd_7 rfl (by rw [hml]; rfl) (W := 1) (by show 2 * 0 + _ ≤ _; exact Nat.le_of_eq rfl) (by decide) (by decide) (by decide) (by decide) (hb hby d15_59) (Ls := #[.val (.ref a), .val (.int (0 : Int32)), .val (.ref rr), .unset, .unset])
      obtain ⟨rfl, rfl, e8⟩ := q8
      have N8 := Fr.app N26_lp0_ (Fr.nil n0)
      refine Go.step (st8) ?_
      show Go _ _ _ _ _ _ _ T8 (mkF m 62 #[_, _, _, _, _] [(.int (ntz (F K))), (.int ((64 : Int32) * (Int32.ofNat K)))])
      refine Go.step (fun tt kk => XS.iadd X8.here hx rfl (hb hby d15_62) rfl kk) ?_
      show Go _ _ _ _ _ _ _ T8 (mkF m 63 #[_, _, _, _, _] [(.int (((64 : Int32) * (Int32.ofNat K)) + (ntz (F K))))])
      refine Go.step (fun tt kk => XS.istoreN X8.here hx rfl (hb hby d15_63) rfl (l' := #[.val (.ref a), .val (.int (0 : Int32)), .val (.ref rr), .val (.int (((64 : Int32) * (Int32.ofNat K)) + (ntz (F K)))), .unset]) rfl kk) ?_
      show Go _ _ _ _ _ _ _ T8 (mkF m 64 #[_, _, _, _, _] [])
      refine Go.step (fun tt kk => XS.aloadN X8.here hx rfl (hb hby d15_64) rfl rfl kk) ?_
      show Go _ _ _ _ _ _ _ T8 (mkF m 65 #[_, _, _, _, _] [(.ref rr)])
      refine Go.step (fun tt kk => XS.aloadN X8.here hx rfl (hb hby d15_65) rfl rfl kk) ?_
      show Go _ _ _ _ _ _ _ T8 (mkF m 66 #[_, _, _, _, _] [(.ref a), (.ref rr)])
      obtain ⟨T9, X9, e9, st9⟩ := getF X8 hx hZ hown (host := "") (Or.inl (hw _ (List.mem_of_getElem? (i := 108) rfl))) Via.refl e8 f26_lp0__6 (g := (mkF m 66 #[.val (.ref a), .val (.int (0 : Int32)), .val (.ref rr), .val (.int (((64 : Int32) * (Int32.ofNat K)) + (ntz (F K)))), .unset] [(.ref a), (.ref rr)])) rfl rfl (hb hby d15_66)
      refine Go.step (st9) ?_
      show Go _ _ _ _ _ _ _ T9 (mkF m 69 #[_, _, _, _, _] [(.int (Int32.ofNat K)), (.ref rr)])
      refine Go.step (fun tt kk => by jvm_step X9.here [X9.here.top, hx, (hb hby d15_69), Value.category]; exact kk) ?_
      show Go _ _ _ _ _ _ _ T9 (mkF m 70 #[_, _, _, _, _] [(.int (Int32.ofNat K)), (.ref rr), (.int (Int32.ofNat K)), (.ref rr)])
      refine Go.step (a_jload X9 hx hZ e9 f26_lp0__7 (k := K) (Int32.toInt_ofNat_of_lt (by omega)) hK (x := (F K)) rfl (hb hby d15_70)) ?_
      show Go _ _ _ _ _ _ _ T9 (mkF m 71 #[_, _, _, _, _] [(.long (F K)), (.int (Int32.ofNat K)), (.ref rr)])
      refine Go.step (fun tt kk => XS.aloadN X9.here hx rfl (hb hby d15_71) rfl rfl kk) ?_
      show Go _ _ _ _ _ _ _ T9 (mkF m 72 #[_, _, _, _, _] [(.ref rr), (.long (F K)), (.int (Int32.ofNat K)), (.ref rr)])
      refine Go.step (fun tt kk => XS.aloadN X9.here hx rfl (hb hby d15_72) rfl rfl kk) ?_
      show Go _ _ _ _ _ _ _ T9 (mkF m 73 #[_, _, _, _, _] [(.ref a), (.ref rr), (.long (F K)), (.int (Int32.ofNat K)), (.ref rr)])
      obtain ⟨T10, X10, e10, st10⟩ := getF X9 hx hZ hown (host := "") (Or.inl (hw _ (List.mem_of_getElem? (i := 108) rfl))) Via.refl e9 f26_lp0__6 (g := (mkF m 73 #[.val (.ref a), .val (.int (0 : Int32)), .val (.ref rr), .val (.int (((64 : Int32) * (Int32.ofNat K)) + (ntz (F K)))), .unset] [(.ref a), (.ref rr), (.long (F K)), (.int (Int32.ofNat K)), (.ref rr)])) rfl rfl (hb hby d15_73)
      refine Go.step (st10) ?_
      show Go _ _ _ _ _ _ _ T10 (mkF m 76 #[_, _, _, _, _] [(.int (Int32.ofNat K)), (.ref rr), (.long (F K)), (.int (Int32.ofNat K)), (.ref rr)])
      refine Go.step (a_jload X10 hx hZ e10 f26_lp0__7 (k := K) (Int32.toInt_ofNat_of_lt (by omega)) hK (x := (F K)) rfl (hb hby d15_76)) ?_
      show Go _ _ _ _ _ _ _ T10 (mkF m 77 #[_, _, _, _, _] [(.long (F K)), (.long (F K)), (.int (Int32.ofNat K)), (.ref rr)])
      refine Go.step (fun tt kk => XS.lconst X10.here hx rfl (hb hby d15_77) kk) ?_
      show Go _ _ _ _ _ _ _ T10 (mkF m 78 #[_, _, _, _, _] [(.long (1 : Int64)), (.long (F K)), (.long (F K)), (.int (Int32.ofNat K)), (.ref rr)])
      refine Go.step (fun tt kk => XS.lsub X10.here hx rfl (hb hby d15_78) rfl kk) ?_
      show Go _ _ _ _ _ _ _ T10 (mkF m 79 #[_, _, _, _, _] [(.long ((F K) - (1 : Int64))), (.long (F K)), (.int (Int32.ofNat K)), (.ref rr)])
      refine Go.step (fun tt kk => XS.land X10.here hx rfl (hb hby d15_79) rfl kk) ?_
      show Go _ _ _ _ _ _ _ T10 (mkF m 80 #[_, _, _, _, _] [(.long ((F K) &&& ((F K) - (1 : Int64)))), (.int (Int32.ofNat K)), (.ref rr)])
      obtain ⟨cl11, Ar11, hin11, -⟩ := f26_lp0__7.at (j := (Int32.ofNat K)) (k := K) (Int32.toInt_ofNat_of_lt (by omega)) hK
      obtain ⟨T11, h11, X11, e11, W11, st11⟩ := stJ X10 hx hZ e10 Ar11 (j := (Int32.ofNat K)) hin11 (g := (mkF m 80 #[.val (.ref a), .val (.int (0 : Int32)), .val (.ref rr), .val (.int (((64 : Int32) * (Int32.ofNat K)) + (ntz (F K)))), .unset] [(.long ((F K) &&& ((F K) - (1 : Int64)))), (.int (Int32.ofNat K)), (.ref rr)])) rfl rfl (hb hby d15_80)
      have V11 : AV Z h11 rr .long nr (upd (lv F) K (.long ((F K) &&& ((F K) - (1 : Int64))))) := AV.set f26_lp0__7 (k := K) (Int32.toInt_ofNat_of_lt (by omega)) hK W11
      have N11 := Fr.snoc X11 N8 g_rr
      have Z11 : n0 ≤ h11.size := Nat.le_trans Z26_lp0_ (Keep.of_wr W11).1
      have K11 : Keep hI h11 [a, rr, rc] := K26_lp0_.wr W11 (Or.inl (List.mem_of_getElem? (i := 1) rfl))
      refine Go.step (st11) ?_
      show Go _ _ _ _ _ _ _ T11 (mkF m 81 #[_, _, _, _, _] [])
      refine Go.step (fun tt kk => XS.aloadN X11.here hx rfl (hb hby d15_81) rfl rfl kk) ?_
      show Go _ _ _ _ _ _ _ T11 (mkF m 82 #[_, _, _, _, _] [(.ref a)])
      have f13 := (Fld.other W11 f26_lp0__5 (Or.inl ne_a_rr))
      obtain ⟨T12, X12, e12, st12⟩ := getF X11 hx hZ hown (host := "") (Or.inl (hw _ (List.mem_of_getElem? (i := 106) rfl))) Via.refl e11 f13 (g := (mkF m 82 #[.val (.ref a), .val (.int (0 : Int32)), .val (.ref rr), .val (.int (((64 : Int32) * (Int32.ofNat K)) + (ntz (F K)))), .unset] [(.ref a)])) rfl rfl (hb hby d15_82)
      refine Go.step (st12) ?_
      show Go _ _ _ _ _ _ _ T12 (mkF m 85 #[_, _, _, _, _] [(.int (1 : Int32))])
      refine Go.step (fun tt kk => XS.ifNo X12.here hx rfl (hb hby d15_85) rfl ((if0 _ _).trans (feq (by decide)).1) kk) ?_
      show Go _ _ _ _ _ _ _ T12 (mkF m 88 #[_, _, _, _, _] [])
      refine Go.step (fun tt kk => XS.iloadN X12.here hx rfl (hb hby d15_88) rfl kk) ?_
      show Go _ _ _ _ _ _ _ T12 (mkF m 89 #[_, _, _, _, _] [(.int (((64 : Int32) * (Int32.ofNat K)) + (ntz (F K))))])
      refine Go.step (fun tt kk => XS.goto X12.here hx rfl (pc0 := 89) (pc' := 98) rfl (hb hby d15_89) (by decide) (by decide) kk) ?_
      show Go _ _ _ _ _ _ _ T12 (mkF m 98 #[_, _, _, _, _] [(.int (((64 : Int32) * (Int32.ofNat K)) + (ntz (F K))))])
      refine Go.step (fun tt kk => XS.istore X12.here hx rfl (hb hby d15_98) rfl (l' := #[.val (.ref a), .val (.int (0 : Int32)), .val (.ref rr), .val (.int (((64 : Int32) * (Int32.ofNat K)) + (ntz (F K)))), .val (.int (((64 : Int32) * (Int32.ofNat K)) + (ntz (F K))))]) rfl kk) ?_
      show Go _ _ _ _ _ _ _ T12 (mkF m 100 #[_, _, _, _, _] [])
      refine Go.step (fun tt kk => XS.aloadN X12.here hx rfl (hb hby d15_100) rfl rfl kk) ?_
      show Go _ _ _ _ _ _ _ T12 (mkF m 101 #[_, _, _, _, _] [(.ref a)])
      refine Go.step (fun tt kk => XS.dup X12.here hx rfl (hb hby d15_101) rfl rfl kk) ?_
      show Go _ _ _ _ _ _ _ T12 (mkF m 102 #[_, _, _, _, _] [(.ref a), (.ref a)])
      have f15 := (Fld.other W11 f26_lp0__2 (Or.inl ne_a_rr))
      obtain ⟨T14, X14, e14, st14⟩ := getF X12 hx hZ hown (host := "") (Or.inl (hw _ (List.mem_of_getElem? (i := 129) rfl))) (Via.of (hw _ (List.mem_of_getElem? (i := 130) rfl))) e12 f15 (g := (mkF m 102 #[.val (.ref a), .val (.int (0 : Int32)), .val (.ref rr), .val (.int (((64 : Int32) * (Int32.ofNat K)) + (ntz (F K)))), .val (.int (((64 : Int32) * (Int32.ofNat K)) + (ntz (F K))))] [(.ref a), (.ref a)])) rfl rfl (hb hby d15_102)
      refine Go.step (st14) ?_
      show Go _ _ _ _ _ _ _ T14 (mkF m 105 #[_, _, _, _, _] [(.long tk), (.ref a)])
      refine Go.step (fun tt kk => XS.lconst X14.here hx rfl (hb hby d15_105) kk) ?_
      show Go _ _ _ _ _ _ _ T14 (mkF m 106 #[_, _, _, _, _] [(.long (1 : Int64)), (.long tk), (.ref a)])
      refine Go.step (fun tt kk => XS.iload X14.here hx rfl (hb hby d15_106) rfl kk) ?_
      show Go _ _ _ _ _ _ _ T14 (mkF m 108 #[_, _, _, _, _] [(.int (((64 : Int32) * (Int32.ofNat K)) + (ntz (F K)))), (.long (1 : Int64)), (.long tk), (.ref a)])
      refine Go.step (fun tt kk => XS.lshl X14.here hx rfl (hb hby d15_108) rfl kk) ?_
      show Go _ _ _ _ _ _ _ T14 (mkF m 109 #[_, _, _, _, _] [(.long ((1 : Int64) <<< ((((64 : Int32) * (Int32.ofNat K)) + (ntz (F K))) &&& 0x3f).toInt64)), (.long tk), (.ref a)])
      refine Go.step (fun tt kk => XS.lor X14.here hx rfl (hb hby d15_109) rfl kk) ?_
      show Go _ _ _ _ _ _ _ T14 (mkF m 110 #[_, _, _, _, _] [(.long (tk ||| ((1 : Int64) <<< ((((64 : Int32) * (Int32.ofNat K)) + (ntz (F K))) &&& 0x3f).toInt64))), (.ref a)])
      have f17 := (Exa.wr W11 f26_lp0__0)
      obtain ⟨T16, h16, X16, e16, W16, st16⟩ := putF X14 hx hZ hown (host := "") (Or.inl (hw _ (List.mem_of_getElem? (i := 129) rfl))) (Via.of (hw _ (List.mem_of_getElem? (i := 130) rfl))) e14 f15 f17 (Or.inl (hw _ (List.mem_of_getElem? (i := 86) rfl))) (hw _ (List.mem_of_getElem? (i := 2) rfl)) (ty := .long) (by decide) rfl rfl (g := (mkF m 110 #[.val (.ref a), .val (.int (0 : Int32)), .val (.ref rr), .val (.int (((64 : Int32) * (Int32.ofNat K)) + (ntz (F K)))), .val (.int (((64 : Int32) * (Int32.ofNat K)) + (ntz (F K))))] [(.long (tk ||| ((1 : Int64) <<< ((((64 : Int32) * (Int32.ofNat K)) + (ntz (F K))) &&& 0x3f).toInt64))), (.ref a)])) rfl rfl (hb hby d15_110)
      have F16 := Fld.same W16 f15
      have N16 := Fr.snoc X16 N11 g_a
      have Z16 : n0 ≤ h16.size := Nat.le_trans Z11 (Keep.of_wr W16).1
      have K16 : Keep hI h16 [a, rr, rc] := K11.wr W16 (Or.inl (List.mem_of_getElem? (i := 0) rfl))
      refine Go.step (st16) ?_
      show Go _ _ _ _ _ _ _ T16 (mkF m 113 #[_, _, _, _, _] [])
      refine Go.step (fun tt kk => XS.iload X16.here hx rfl (hb hby d15_113) rfl kk) ?_
      show Go _ _ _ _ _ _ _ T16 (mkF m 115 #[_, _, _, _, _] [(.int (((64 : Int32) * (Int32.ofNat K)) + (ntz (F K))))])
      have f18 := (Exa.wr W16 f17)
      have f19 := (Fld.other W16 (Fld.other W11 f26_lp0__1 (Or.inl ne_a_rr)) (Or.inr (slot_ne (Or.inr (hw _ (List.mem_of_getElem? (i := 18) rfl))) (Or.inl (hw _ (List.mem_of_getElem? (i := 86) rfl))) (by decide) (t := .int) (t' := .long) (by decide) (by decide))))
      have f20 := (Fld.other W16 (Fld.other W11 f26_lp0__3 (Or.inl ne_a_rr)) (Or.inr (slot_ne (Or.inr (hw _ (List.mem_of_getElem? (i := 39) rfl))) (Or.inl (hw _ (List.mem_of_getElem? (i := 86) rfl))) (by decide) (t := (.array .long)) (t' := .long) (by decide) (by decide))))
      have f21 := (Fld.other W16 (Fld.other W11 f26_lp0__4 (Or.inl ne_a_rr)) (Or.inr (slot_ne (Or.inr (hw _ (List.mem_of_getElem? (i := 41) rfl))) (Or.inl (hw _ (List.mem_of_getElem? (i := 86) rfl))) (by decide) (t := (.array .long)) (t' := .long) (by decide) (by decide))))
      have f22 := (Fld.other W16 f13 (Or.inr (slot_ne (Or.inl (hw _ (List.mem_of_getElem? (i := 107) rfl))) (Or.inl (hw _ (List.mem_of_getElem? (i := 86) rfl))) (by decide) (t := .boolean) (t' := .long) (by decide) (by decide))))
      have f23 := (Fld.other W16 (Fld.other W11 f26_lp0__6 (Or.inl ne_a_rr)) (Or.inr (slot_ne (Or.inl (hw _ (List.mem_of_getElem? (i := 109) rfl))) (Or.inl (hw _ (List.mem_of_getElem? (i := 86) rfl))) (by decide) (t := .int) (t' := .long) (by decide) (by decide))))
      have f24 := (V11.other W16 (Ne.symm ne_a_rr))
      have f25 := ((f26_lp0__8.other W11 (Ne.symm ne_rr_rc)).other W16 (Ne.symm ne_a_rc))
      refine go_retI X16 hx hret hlk (hb hby d15_115) ?_ (by decide) (by decide)
      try rw [e16]
      exact ⟨_, rfl, N16, eI ▸ K16, f18, f19, F16, f20, f21, f22, f23, (AV.congr (g := lv (loAt F K)) f24 fun i hi => by
          by_cases q : i = K
          · subst q; exact upd_eq.trans (congrArg Value.long (if_pos rfl).symm)
          · exact (upd_ne q).trans (congrArg Value.long (if_neg q).symm)), f25⟩
    | succ u ih =>
      intro  T26_lp0_ lc26_lp0_ hh26_lp0_ X26_lp0_ e26_lp0_ N26_lp0_ Z26_lp0_ K26_lp0_ f26_lp0__0 f26_lp0__1 f26_lp0__2 f26_lp0__3 f26_lp0__4 f26_lp0__5 f26_lp0__6 f26_lp0__7 f26_lp0__8 hu0
      show Go _ _ _ _ _ _ _ T26_lp0_ (mkF m 26 #[.val (.ref a), .val (.int (0 : Int32)), .val (.ref rr), .unset, .unset] [])
      refine Go.step (fun tt kk => XS.aloadN X26_lp0_.here hx rfl (hb hby d15_26) rfl rfl kk) ?_
      show Go _ _ _ _ _ _ _ T26_lp0_ (mkF m 27 #[_, _, _, _, _] [(.ref a)])
      obtain ⟨T26, X26, e26, st26⟩ := getF X26_lp0_ hx hZ hown (host := "") (Or.inl (hw _ (List.mem_of_getElem? (i := 108) rfl))) Via.refl e26_lp0_ f26_lp0__6 (g := (mkF m 27 #[.val (.ref a), .val (.int (0 : Int32)), .val (.ref rr), .unset, .unset] [(.ref a)])) rfl rfl (hb hby d15_27)
      refine Go.step (st26) ?_
      show Go _ _ _ _ _ _ _ T26 (mkF m 30 #[_, _, _, _, _] [(.int (Int32.ofNat (K - (u + 1))))])
      refine Go.step (fun tt kk => XS.aloadN X26.here hx rfl (hb hby d15_30) rfl rfl kk) ?_
      show Go _ _ _ _ _ _ _ T26 (mkF m 31 #[_, _, _, _, _] [(.ref rr), (.int (Int32.ofNat (K - (u + 1))))])
      refine Go.step (a_len X26 hx hZ e26 f26_lp0__7 (z := (Int32.ofNat nr)) (Int32.toInt_ofNat_of_lt (by omega)) (hb hby d15_31)) ?_
      show Go _ _ _ _ _ _ _ T26 (mkF m 32 #[_, _, _, _, _] [(.int (Int32.ofNat nr)), (.int (Int32.ofNat (K - (u + 1))))])
      refine Go.step (fun tt kk => XS.icmpNo X26.here hx rfl (hb hby d15_32) rfl (tlt ((own_lt (K - (u + 1)) nr (by omega) (by omega)).mpr (by omega))).2.1 kk) ?_
      show Go _ _ _ _ _ _ _ T26 (mkF m 35 #[_, _, _, _, _] [])
      refine Go.step (fun tt kk => XS.aloadN X26.here hx rfl (hb hby d15_35) rfl rfl kk) ?_
      show Go _ _ _ _ _ _ _ T26 (mkF m 36 #[_, _, _, _, _] [(.ref rr)])
      refine Go.step (fun tt kk => XS.aloadN X26.here hx rfl (hb hby d15_36) rfl rfl kk) ?_
      show Go _ _ _ _ _ _ _ T26 (mkF m 37 #[_, _, _, _, _] [(.ref a), (.ref rr)])
      obtain ⟨T27, X27, e27, st27⟩ := getF X26 hx hZ hown (host := "") (Or.inl (hw _ (List.mem_of_getElem? (i := 108) rfl))) Via.refl e26 f26_lp0__6 (g := (mkF m 37 #[.val (.ref a), .val (.int (0 : Int32)), .val (.ref rr), .unset, .unset] [(.ref a), (.ref rr)])) rfl rfl (hb hby d15_37)
      refine Go.step (st27) ?_
      show Go _ _ _ _ _ _ _ T27 (mkF m 40 #[_, _, _, _, _] [(.int (Int32.ofNat (K - (u + 1)))), (.ref rr)])
      refine Go.step (a_jload X27 hx hZ e27 f26_lp0__7 (k := (K - (u + 1))) (Int32.toInt_ofNat_of_lt (by omega)) (by omega) (x := (F (K - (u + 1)))) rfl (hb hby d15_40)) ?_
      show Go _ _ _ _ _ _ _ T27 (mkF m 41 #[_, _, _, _, _] [(.long (F (K - (u + 1))))])
      refine Go.step (fun tt kk => XS.lconst X27.here hx rfl (hb hby d15_41) kk) ?_
      show Go _ _ _ _ _ _ _ T27 (mkF m 42 #[_, _, _, _, _] [(.long (0 : Int64)), (.long (F (K - (u + 1))))])
      refine Go.step (fun tt kk => XS.lcmp X27.here hx rfl (hb hby d15_42) rfl kk) ?_
      show Go _ _ _ _ _ _ _ T27 (mkF m 43 #[_, _, _, _, _] [(.int (lcmpW (F (K - (u + 1))) (0 : Int64)))])
      refine Go.step (fun tt kk => XS.ifYes X27.here hx rfl (pc0 := 43) (pc' := 116) rfl (hb hby d15_43) rfl ((if0 _ _).trans (teq ((lw_eq _ _).mpr (hz0 (K - (u + 1)) (by omega) (by omega)))).1) (by decide) (by decide) kk) ?_
      show Go _ _ _ _ _ _ _ T27 (mkF m 116 #[_, _, _, _, _] [])
      refine Go.step (fun tt kk => XS.aloadN X27.here hx rfl (hb hby d15_116) rfl rfl kk) ?_
      show Go _ _ _ _ _ _ _ T27 (mkF m 117 #[_, _, _, _, _] [(.ref a)])
      refine Go.step (fun tt kk => XS.dup X27.here hx rfl (hb hby d15_117) rfl rfl kk) ?_
      show Go _ _ _ _ _ _ _ T27 (mkF m 118 #[_, _, _, _, _] [(.ref a), (.ref a)])
      obtain ⟨T28, X28, e28, st28⟩ := getF X27 hx hZ hown (host := "") (Or.inl (hw _ (List.mem_of_getElem? (i := 108) rfl))) Via.refl e27 f26_lp0__6 (g := (mkF m 118 #[.val (.ref a), .val (.int (0 : Int32)), .val (.ref rr), .unset, .unset] [(.ref a), (.ref a)])) rfl rfl (hb hby d15_118)
      refine Go.step (st28) ?_
      show Go _ _ _ _ _ _ _ T28 (mkF m 121 #[_, _, _, _, _] [(.int (Int32.ofNat (K - (u + 1)))), (.ref a)])
      refine Go.step (fun tt kk => XS.iconst X28.here hx rfl (hb hby d15_121) kk) ?_
      show Go _ _ _ _ _ _ _ T28 (mkF m 122 #[_, _, _, _, _] [(.int (1 : Int32)), (.int (Int32.ofNat (K - (u + 1)))), (.ref a)])
      refine Go.step (fun tt kk => XS.iadd X28.here hx rfl (hb hby d15_122) rfl kk) ?_
      show Go _ _ _ _ _ _ _ T28 (mkF m 123 #[_, _, _, _, _] [(.int ((Int32.ofNat (K - (u + 1))) + (1 : Int32))), (.ref a)])
      rw [own_up K u (by omega)]
      show Go _ _ _ _ _ _ _ T28 (mkF m 123 #[.val (.ref a), .val (.int (0 : Int32)), .val (.ref rr), .unset, .unset] [(.int (Int32.ofNat (K - u))), (.ref a)])
      obtain ⟨T29, h29, X29, e29, W29, st29⟩ := putF X28 hx hZ hown (host := "") (Or.inl (hw _ (List.mem_of_getElem? (i := 108) rfl))) Via.refl e28 f26_lp0__6 f26_lp0__0 (Or.inl (hw _ (List.mem_of_getElem? (i := 109) rfl))) (hw _ (List.mem_of_getElem? (i := 2) rfl)) (ty := .int) (by decide) rfl rfl (g := (mkF m 123 #[.val (.ref a), .val (.int (0 : Int32)), .val (.ref rr), .unset, .unset] [(.int (Int32.ofNat (K - u))), (.ref a)])) rfl rfl (hb hby d15_123)
      have F29 := Fld.same W29 f26_lp0__6
      have N29 := Fr.snoc X29 N26_lp0_ g_a
      have Z29 : n0 ≤ h29.size := Nat.le_trans Z26_lp0_ (Keep.of_wr W29).1
      have K29 : Keep hI h29 [a, rr, rc] := K26_lp0_.wr W29 (Or.inl (List.mem_of_getElem? (i := 0) rfl))
      refine Go.step (st29) ?_
      show Go _ _ _ _ _ _ _ T29 (mkF m 126 #[_, _, _, _, _] [])
      refine Go.step (fun tt kk => XS.goto X29.here hx rfl (pc0 := 126) (pc' := 26) rfl (hb hby d15_126) (by decide) (by decide) kk) ?_
      show Go _ _ _ _ _ _ _ T29 (mkF m 26 #[_, _, _, _, _] [])
      have f30 := (Exa.wr W29 f26_lp0__0)
      have f31 := (Fld.other W29 f26_lp0__1 (Or.inr (slot_ne (Or.inr (hw _ (List.mem_of_getElem? (i := 18) rfl))) (Or.inl (hw _ (List.mem_of_getElem? (i := 109) rfl))) (by decide) (t := .int) (t' := .int) (by decide) (by decide))))
      have f32 := (Fld.other W29 f26_lp0__2 (Or.inr (slot_ne (Or.inl (hw _ (List.mem_of_getElem? (i := 86) rfl))) (Or.inl (hw _ (List.mem_of_getElem? (i := 109) rfl))) (by decide) (t := .long) (t' := .int) (by decide) (by decide))))
      have f33 := (Fld.other W29 f26_lp0__3 (Or.inr (slot_ne (Or.inr (hw _ (List.mem_of_getElem? (i := 39) rfl))) (Or.inl (hw _ (List.mem_of_getElem? (i := 109) rfl))) (by decide) (t := (.array .long)) (t' := .int) (by decide) (by decide))))
      have f34 := (Fld.other W29 f26_lp0__4 (Or.inr (slot_ne (Or.inr (hw _ (List.mem_of_getElem? (i := 41) rfl))) (Or.inl (hw _ (List.mem_of_getElem? (i := 109) rfl))) (by decide) (t := (.array .long)) (t' := .int) (by decide) (by decide))))
      have f35 := (Fld.other W29 f26_lp0__5 (Or.inr (slot_ne (Or.inl (hw _ (List.mem_of_getElem? (i := 107) rfl))) (Or.inl (hw _ (List.mem_of_getElem? (i := 109) rfl))) (by decide) (t := .boolean) (t' := .int) (by decide) (by decide))))
      have f36 := (f26_lp0__7.other W29 (Ne.symm ne_a_rr))
      have f37 := (f26_lp0__8.other W29 (Ne.symm ne_a_rc))
      exact ih  _ _ _ (X29.more (by decide) (by decide)) e29 N29 Z29 K29 f30 f31 f32 f33 f34 f35 F29 f36 f37 (by omega)
  exact lp0_26 (K - k)  _ _ _ (X2.more (by decide) (by decide)) e2 N0 Z0 K0 E_a F_0 F_1 F_2 F_3 F_4 f3 V_rr V_rc (by omega)
theorem ef_rmNf0 (m : MethodId) (x0 : Addr) : entryFrame m #[(.ref x0)] 5 = mkF m 0 #[.val (.ref x0), .unset, .unset, .unset, .unset] [] := by first | (simp [entryFrame, mkF, argsToLocals, Value.category]; done) | rfl
theorem d15_21 : decode prog_61_method_7_code 21 = .ok (.aload_n 0, 1) := by decide +kernel
theorem d15_22 : decode prog_61_method_7_code 22 = .ok (.getfield 41, 3) := by decide +kernel
theorem d15_92 : decode prog_61_method_7_code 92 = .ok (.aload_n 0, 1) := by decide +kernel
theorem d15_93 : decode prog_61_method_7_code 93 = .ok (.getfield 52, 3) := by decide +kernel
theorem d15_96 : decode prog_61_method_7_code 96 = .ok (.iload_n 3, 1) := by decide +kernel
theorem d15_97 : decode prog_61_method_7_code 97 = .ok (.iadd, 1) := by decide +kernel
set_option maxRecDepth 65536 in
set_option maxHeartbeats 40000000 in
theorem rmNf0 (l : Launch) (Z : State) (a0 : Array Value) (hw : ∀ d ∈ tables_1, d.before a0 Z = true) (ws : List Jvm.Cond) (a rr rc : Addr) (H nr nc k K : Nat) (tk : Int64) (F G : Nat → Int64) (h0 : Heap) (n0 : Nat) (Z0 : n0 ≤ h0.size) (E_a : Exa Z h0 a "com/example/gridwright/gridwright/engine/LargeDraft") (F_0 : Fld Z h0 a "com/example/gridwright/gridwright/engine/Draft" "height" "I" (.int (Int32.ofNat H))) (F_1 : Fld Z h0 a "com/example/gridwright/gridwright/engine/Draft" "taken" "J" (.long tk)) (F_2 : Fld Z h0 a "com/example/gridwright/gridwright/engine/LargeDraft" "waitingRows" "[J" (.ref rr)) (F_3 : Fld Z h0 a "com/example/gridwright/gridwright/engine/LargeDraft" "waitingColumns" "[J" (.ref rc)) (F_4 : Fld Z h0 a "com/example/gridwright/gridwright/engine/LargeDraft" "rows" "Z" (.int (0 : Int32))) (F_5 : Fld Z h0 a "com/example/gridwright/gridwright/engine/LargeDraft" "scan" "I" (.int (Int32.ofNat k))) (V_rr : AV Z h0 rr .long nr (lv F)) (V_rc : AV Z h0 rc .long nc (lv G)) (g_a : n0 ≤ a) (g_rr : n0 ≤ rr) (g_rc : n0 ≤ rc) (ne_a_rr : a ≠ rr) (ne_a_rc : a ≠ rc) (ne_rr_rc : rr ≠ rc) (hnr : nr ≤ 2) (hnc : nc ≤ 2) (hk : k ≤ K) (hK : K < nc) (hz0 : ∀ j, k ≤ j → j < K → G j = 0) (hnz : ¬ G K = 0) :
    Ctr l Z (⟨"com/example/gridwright/gridwright/engine/LargeDraft", "next", "()I"⟩ : MethodName) prog_61_method_7_code 5 (some .int) ws ({ frames := 2, cells := 0, slots := 0, locals := 29 } : Room) 0 0 #[(.ref a)] h0 (fun v h L => ∃ tk' : Int64, v = some (.int (Int32.ofNat H + ((64 : Int32) * Int32.ofNat K + ntz (G K)))) ∧ Fr n0 L ∧ Keep h0 h [a, rr, rc] ∧ Exa Z h a "com/example/gridwright/gridwright/engine/LargeDraft" ∧ Fld Z h a "com/example/gridwright/gridwright/engine/Draft" "height" "I" (.int (Int32.ofNat H)) ∧ Fld Z h a "com/example/gridwright/gridwright/engine/Draft" "taken" "J" (.long tk') ∧ Fld Z h a "com/example/gridwright/gridwright/engine/LargeDraft" "waitingRows" "[J" (.ref rr) ∧ Fld Z h a "com/example/gridwright/gridwright/engine/LargeDraft" "waitingColumns" "[J" (.ref rc) ∧ Fld Z h a "com/example/gridwright/gridwright/engine/LargeDraft" "rows" "Z" (.int (0 : Int32)) ∧ Fld Z h a "com/example/gridwright/gridwright/engine/LargeDraft" "scan" "I" (.int (Int32.ofNat K)) ∧ AV Z h rr .long nr (lv F) ∧ AV Z h rc .long nc (lv (loAt G K))) := by
  refine Ctr.mk (plainFor_of_name pn_4) fun p e s m below meth c T0 X0 C e0 => go_cast (ef_rmNf0 m a) ?_
  have N0 := Fr.nil n0
  obtain ⟨hx, hZ, hby, hml, hown, hnm, hret, hlk⟩ := C
  obtain ⟨hI, eI⟩ : ∃ z, z = h0 := ⟨_, rfl⟩
  have K0 : Keep hI h0 [a, rr, rc] := by rw [eI]; exact Keep.refl _ _
  show Go _ _ _ _ _ _ _ T0 (mkF m 0 #[.val (.ref a), .unset, .unset, .unset, .unset] [])
  refine Go.step (fun tt kk => XS.iconst X0.here hx rfl (hb hby d15_0) kk) ?_
  show Go _ _ _ _ _ _ _ T0 (mkF m 1 #[_, _, _, _, _] [(.int (0 : Int32))])
  refine Go.step (fun tt kk => XS.istoreN X0.here hx rfl (hb hby d15_1) rfl (l' := #[.val (.ref a), .val (.int (0 : Int32)), .unset, .unset, .unset]) rfl kk) ?_
  show Go _ _ _ _ _ _ _ T0 (mkF m 2 #[_, _, _, _, _] [])
  refine Go.step (fun tt kk => XS.iloadN X0.here hx rfl (hb hby d15_2) rfl kk) ?_
  show Go _ _ _ _ _ _ _ T0 (mkF m 3 #[_, _, _, _, _] [(.int (0 : Int32))])
  refine Go.step (fun tt kk => XS.iconst X0.here hx rfl (hb hby d15_3) kk) ?_
  show Go _ _ _ _ _ _ _ T0 (mkF m 4 #[_, _, _, _, _] [(.int (2 : Int32)), (.int (0 : Int32))])
  refine Go.step (fun tt kk => XS.icmpNo X0.here hx rfl (hb hby d15_4) rfl (tlt (by decide)).2.1 kk) ?_
  show Go _ _ _ _ _ _ _ T0 (mkF m 7 #[_, _, _, _, _] [])
  refine Go.step (fun tt kk => XS.aloadN X0.here hx rfl (hb hby d15_7) rfl rfl kk) ?_
  show Go _ _ _ _ _ _ _ T0 (mkF m 8 #[_, _, _, _, _] [(.ref a)])
  obtain ⟨T1, X1, e1, st1⟩ := getF X0 hx hZ hown (host := "") (Or.inl (hw _ (List.mem_of_getElem? (i := 106) rfl))) Via.refl e0 F_4 (g := (mkF m 8 #[.val (.ref a), .val (.int (0 : Int32)), .unset, .unset, .unset] [(.ref a)])) rfl rfl (hb hby d15_8)
  refine Go.step (st1) ?_
  show Go _ _ _ _ _ _ _ T1 (mkF m 11 #[_, _, _, _, _] [(.int (0 : Int32))])
  refine Go.step (fun tt kk => XS.ifYes X1.here hx rfl (pc0 := 11) (pc' := 21) rfl (hb hby d15_11) rfl ((if0 _ _).trans (teq (by decide)).1) (by decide) (by decide) kk) ?_
  show Go _ _ _ _ _ _ _ T1 (mkF m 21 #[_, _, _, _, _] [])
  refine Go.step (fun tt kk => XS.aloadN X1.here hx rfl (hb hby d15_21) rfl rfl kk) ?_
  show Go _ _ _ _ _ _ _ T1 (mkF m 22 #[_, _, _, _, _] [(.ref a)])
  obtain ⟨T2, X2, e2, st2⟩ := getF X1 hx hZ hown (host := "") (Or.inl (hw _ (List.mem_of_getElem? (i := 40) rfl))) Via.refl e1 F_3 (g := (mkF m 22 #[.val (.ref a), .val (.int (0 : Int32)), .unset, .unset, .unset] [(.ref a)])) rfl rfl (hb hby d15_22)
  refine Go.step (st2) ?_
  show Go _ _ _ _ _ _ _ T2 (mkF m 25 #[_, _, _, _, _] [(.ref rc)])
  refine Go.step (fun tt kk => XS.astoreN X2.here hx rfl (hb hby d15_25) rfl rfl (l' := #[.val (.ref a), .val (.int (0 : Int32)), .val (.ref rc), .unset, .unset]) rfl kk) ?_
  show Go _ _ _ _ _ _ _ T2 (mkF m 26 #[_, _, _, _, _] [])
  have f3 : Fld Z h0 a "com/example/gridwright/gridwright/engine/LargeDraft" "scan" "I" (.int (Int32.ofNat (K - (K - k)))) := by
    have q := F_5
    rw [show K - (K - k) = k by omega]; exact q
  have lp0_26 : ∀ (u : Nat)  (T26_lp0_ : State) (lc26_lp0_ : List Loc) (hh26_lp0_ : Heap) (X26_lp0_ : Stand p l e ({ frames := 2, cells := 0, slots := 0, locals := 29 } : Room) s m #[(.ref a)] below meth c T26_lp0_ lc26_lp0_ 0 0) (e26_lp0_ : T26_lp0_.heap = hh26_lp0_) (N26_lp0_ : Fr n0 lc26_lp0_) (Z26_lp0_ : n0 ≤ hh26_lp0_.size) (K26_lp0_ : Keep hI hh26_lp0_ [a, rr, rc]) (f26_lp0__0 : Exa Z hh26_lp0_ a "com/example/gridwright/gridwright/engine/LargeDraft") (f26_lp0__1 : Fld Z hh26_lp0_ a "com/example/gridwright/gridwright/engine/Draft" "height" "I" (.int (Int32.ofNat H))) (f26_lp0__2 : Fld Z hh26_lp0_ a "com/example/gridwright/gridwright/engine/Draft" "taken" "J" (.long tk)) (f26_lp0__3 : Fld Z hh26_lp0_ a "com/example/gridwright/gridwright/engine/LargeDraft" "waitingRows" "[J" (.ref rr)) (f26_lp0__4 : Fld Z hh26_lp0_ a "com/example/gridwright/gridwright/engine/LargeDraft" "waitingColumns" "[J" (.ref rc)) (f26_lp0__5 : Fld Z hh26_lp0_ a "com/example/gridwright/gridwright/engine/LargeDraft" "rows" "Z" (.int (0 : Int32))) (f26_lp0__6 : Fld Z hh26_lp0_ a "com/example/gridwright/gridwright/engine/LargeDraft" "scan" "I" (.int (Int32.ofNat (K - u)))) (f26_lp0__7 : AV Z hh26_lp0_ rr .long nr (lv F)) (f26_lp0__8 : AV Z hh26_lp0_ rc .long nc (lv G)) (hu0 : u + k ≤ K),
      Go p e s below 0 0 (fun v h L => ∃ tk' : Int64, v = some (.int (Int32.ofNat H + ((64 : Int32) * Int32.ofNat K + ntz (G K)))) ∧ Fr n0 L ∧ Keep h0 h [a, rr, rc] ∧ Exa Z h a "com/example/gridwright/gridwright/engine/LargeDraft" ∧ Fld Z h a "com/example/gridwright/gridwright/engine/Draft" "height" "I" (.int (Int32.ofNat H)) ∧ Fld Z h a "com/example/gridwright/gridwright/engine/Draft" "taken" "J" (.long tk') ∧ Fld Z h a "com/example/gridwright/gridwright/engine/LargeDraft" "waitingRows" "[J" (.ref rr) ∧ Fld Z h a "com/example/gridwright/gridwright/engine/LargeDraft" "waitingColumns" "[J" (.ref rc) ∧ Fld Z h a "com/example/gridwright/gridwright/engine/LargeDraft" "rows" "Z" (.int (0 : Int32)) ∧ Fld Z h a "com/example/gridwright/gridwright/engine/LargeDraft" "scan" "I" (.int (Int32.ofNat K)) ∧ AV Z h rr .long nr (lv F) ∧ AV Z h rc .long nc (lv (loAt G K))) T26_lp0_ (mkF m 26 #[.val (.ref a), .val (.int (0 : Int32)), .val (.ref rc), .unset, .unset] []) := by
    intro u
    induction u with
    | zero =>
      intro  T26_lp0_ lc26_lp0_ hh26_lp0_ X26_lp0_ e26_lp0_ N26_lp0_ Z26_lp0_ K26_lp0_ f26_lp0__0 f26_lp0__1 f26_lp0__2 f26_lp0__3 f26_lp0__4 f26_lp0__5 f26_lp0__6 f26_lp0__7 f26_lp0__8 hu0
      show Go _ _ _ _ _ _ _ T26_lp0_ (mkF m 26 #[.val (.ref a), .val (.int (0 : Int32)), .val (.ref rc), .unset, .unset] [])
      refine Go.step (fun tt kk => XS.aloadN X26_lp0_.here hx rfl (hb hby d15_26) rfl rfl kk) ?_
      show Go _ _ _ _ _ _ _ T26_lp0_ (mkF m 27 #[_, _, _, _, _] [(.ref a)])
      obtain ⟨T4, X4, e4, st4⟩ := getF X26_lp0_ hx hZ hown (host := "") (Or.inl (hw _ (List.mem_of_getElem? (i := 108) rfl))) Via.refl e26_lp0_ f26_lp0__6 (g := (mkF m 27 #[.val (.ref a), .val (.int (0 : Int32)), .val (.ref rc), .unset, .unset] [(.ref a)])) rfl rfl (hb hby d15_27)
      refine Go.step (st4) ?_
      show Go _ _ _ _ _ _ _ T4 (mkF m 30 #[_, _, _, _, _] [(.int (Int32.ofNat K))])
      refine Go.step (fun tt kk => XS.aloadN X4.here hx rfl (hb hby d15_30) rfl rfl kk) ?_
      show Go _ _ _ _ _ _ _ T4 (mkF m 31 #[_, _, _, _, _] [(.ref rc), (.int (Int32.ofNat K))])
      refine Go.step (a_len X4 hx hZ e4 f26_lp0__8 (z := (Int32.ofNat nc)) (Int32.toInt_ofNat_of_lt (by omega)) (hb hby d15_31)) ?_
      show Go _ _ _ _ _ _ _ T4 (mkF m 32 #[_, _, _, _, _] [(.int (Int32.ofNat nc)), (.int (Int32.ofNat K))])
      refine Go.step (fun tt kk => XS.icmpNo X4.here hx rfl (hb hby d15_32) rfl (tlt ((own_lt K nc (by omega) (by omega)).mpr hK)).2.1 kk) ?_
      show Go _ _ _ _ _ _ _ T4 (mkF m 35 #[_, _, _, _, _] [])
      refine Go.step (fun tt kk => XS.aloadN X4.here hx rfl (hb hby d15_35) rfl rfl kk) ?_
      show Go _ _ _ _ _ _ _ T4 (mkF m 36 #[_, _, _, _, _] [(.ref rc)])
      refine Go.step (fun tt kk => XS.aloadN X4.here hx rfl (hb hby d15_36) rfl rfl kk) ?_
      show Go _ _ _ _ _ _ _ T4 (mkF m 37 #[_, _, _, _, _] [(.ref a), (.ref rc)])
      obtain ⟨T5, X5, e5, st5⟩ := getF X4 hx hZ hown (host := "") (Or.inl (hw _ (List.mem_of_getElem? (i := 108) rfl))) Via.refl e4 f26_lp0__6 (g := (mkF m 37 #[.val (.ref a), .val (.int (0 : Int32)), .val (.ref rc), .unset, .unset] [(.ref a), (.ref rc)])) rfl rfl (hb hby d15_37)
      refine Go.step (st5) ?_
      show Go _ _ _ _ _ _ _ T5 (mkF m 40 #[_, _, _, _, _] [(.int (Int32.ofNat K)), (.ref rc)])
      refine Go.step (a_jload X5 hx hZ e5 f26_lp0__8 (k := K) (Int32.toInt_ofNat_of_lt (by omega)) hK (x := (G K)) rfl (hb hby d15_40)) ?_
      show Go _ _ _ _ _ _ _ T5 (mkF m 41 #[_, _, _, _, _] [(.long (G K))])
      refine Go.step (fun tt kk => XS.lconst X5.here hx rfl (hb hby d15_41) kk) ?_
      show Go _ _ _ _ _ _ _ T5 (mkF m 42 #[_, _, _, _, _] [(.long (0 : Int64)), (.long (G K))])
      refine Go.step (fun tt kk => XS.lcmp X5.here hx rfl (hb hby d15_42) rfl kk) ?_
      show Go _ _ _ _ _ _ _ T5 (mkF m 43 #[_, _, _, _, _] [(.int (lcmpW (G K) (0 : Int64)))])
      refine Go.step (fun tt kk => XS.ifNo X5.here hx rfl (hb hby d15_43) rfl ((if0 _ _).trans (feq (fun q => hnz ((lw_eq _ _).mp q))).1) kk) ?_
      show Go _ _ _ _ _ _ _ T5 (mkF m 46 #[_, _, _, _, _] [])
      refine Go.step (fun tt kk => XS.bipush X5.here hx rfl (hb hby d15_46) kk) ?_
      show Go _ _ _ _ _ _ _ T5 (mkF m 48 #[_, _, _, _, _] [(.int (64 : Int32))])
      refine Go.step (fun tt kk => XS.aloadN X5.here hx rfl (hb hby d15_48) rfl rfl kk) ?_
      show Go _ _ _ _ _ _ _ T5 (mkF m 49 #[_, _, _, _, _] [(.ref a), (.int (64 : Int32))])
      obtain ⟨T6, X6, e6, st6⟩ := getF X5 hx hZ hown (host := "") (Or.inl (hw _ (List.mem_of_getElem? (i := 108) rfl))) Via.refl e5 f26_lp0__6 (g := (mkF m 49 #[.val (.ref a), .val (.int (0 : Int32)), .val (.ref rc), .unset, .unset] [(.ref a), (.int (64 : Int32))])) rfl rfl (hb hby d15_49)
      refine Go.step (st6) ?_
      show Go _ _ _ _ _ _ _ T6 (mkF m 52 #[_, _, _, _, _] [(.int (Int32.ofNat K)), (.int (64 : Int32))])
      refine Go.step (fun tt kk => XS.imul X6.here hx rfl (hb hby d15_52) rfl kk) ?_
      show Go _ _ _ _ _ _ _ T6 (mkF m 53 #[_, _, _, _, _] [(.int ((64 : Int32) * (Int32.ofNat K)))])
      refine Go.step (fun tt kk => XS.aloadN X6.here hx rfl (hb hby d15_53) rfl rfl kk) ?_
      show Go _ _ _ _ _ _ _ T6 (mkF m 54 #[_, _, _, _, _] [(.ref rc), (.int ((64 : Int32) * (Int32.ofNat K)))])
      refine Go.step (fun tt kk => XS.aloadN X6.here hx rfl (hb hby d15_54) rfl rfl kk) ?_
      show Go _ _ _ _ _ _ _ T6 (mkF m 55 #[_, _, _, _, _] [(.ref a), (.ref rc), (.int ((64 : Int32) * (Int32.ofNat K)))])
      obtain ⟨T7, X7, e7, st7⟩ := getF X6 hx hZ hown (host := "") (Or.inl (hw _ (List.mem_of_getElem? (i := 108) rfl))) Via.refl e6 f26_lp0__6 (g := (mkF m 55 #[.val (.ref a), .val (.int (0 : Int32)), .val (.ref rc), .unset, .unset] [(.ref a), (.ref rc), (.int ((64 : Int32) * (Int32.ofNat K)))])) rfl rfl (hb hby d15_55)
      refine Go.step (st7) ?_
      show Go _ _ _ _ _ _ _ T7 (mkF m 58 #[_, _, _, _, _] [(.int (Int32.ofNat K)), (.ref rc), (.int ((64 : Int32) * (Int32.ofNat K)))])
      refine Go.step (a_jload X7 hx hZ e7 f26_lp0__8 (k := K) (Int32.toInt_ofNat_of_lt (by omega)) hK (x := (G K)) rfl (hb hby d15_58)) ?_
      show Go _ _ _ _ _ _ _ T7 (mkF m 59 #[_, _, _, _, _] [(.long (G K)), (.int ((64 : Int32) * (Int32.ofNat K)))])
      obtain ⟨v8, T8, L8, X8, q8, st8⟩ := c_static X7 hx hZ hown (y := (⟨"java/lang/Long", "numberOfTrailingZeros", "(J)I"⟩ : MethodName)) (hw _ (List.mem_of_getElem? (i := 120) rfl)) (hw _ (List.mem_of_getElem? (i := 121) rfl)) (hw _ (List.mem_of_getElem? (i := 122) rfl)) (hw _ (List.mem_of_getElem? (i := 123) rfl)) (by decide) (argsL := [(.long (G K))]) (rest := [(.int ((64 : Int32) * (Int32.ofNat K)))]) (rmtl l Z a0 hw [] (G K) hh26_lp0_ n0 Z26_lp0_) e7 pd_7 rfl (by rw [hml]; rfl) (W := 1) (by show 2 * 0 + _ ≤ _; exact Nat.le_of_eq rfl) (by decide) (by decide) (by decide) (by decide) (hb hby d15_59) (Ls := #[.val (.ref a), .val (.int (0 : Int32)), .val (.ref rc), .unset, .unset])
      obtain ⟨rfl, rfl, e8⟩ := q8
      have N8 := Fr.app N26_lp0_ (Fr.nil n0)
      refine Go.step (st8) ?_
      show Go _ _ _ _ _ _ _ T8 (mkF m 62 #[_, _, _, _, _] [(.int (ntz (G K))), (.int ((64 : Int32) * (Int32.ofNat K)))])
      refine Go.step (fun tt kk => XS.iadd X8.here hx rfl (hb hby d15_62) rfl kk) ?_
      show Go _ _ _ _ _ _ _ T8 (mkF m 63 #[_, _, _, _, _] [(.int (((64 : Int32) * (Int32.ofNat K)) + (ntz (G K))))])
      refine Go.step (fun tt kk => XS.istoreN X8.here hx rfl (hb hby d15_63) rfl (l' := #[.val (.ref a), .val (.int (0 : Int32)), .val (.ref rc), .val (.int (((64 : Int32) * (Int32.ofNat K)) + (ntz (G K)))), .unset]) rfl kk) ?_
      show Go _ _ _ _ _ _ _ T8 (mkF m 64 #[_, _, _, _, _] [])
      refine Go.step (fun tt kk => XS.aloadN X8.here hx rfl (hb hby d15_64) rfl rfl kk) ?_
      show Go _ _ _ _ _ _ _ T8 (mkF m 65 #[_, _, _, _, _] [(.ref rc)])
      refine Go.step (fun tt kk => XS.aloadN X8.here hx rfl (hb hby d15_65) rfl rfl kk) ?_
      show Go _ _ _ _ _ _ _ T8 (mkF m 66 #[_, _, _, _, _] [(.ref a), (.ref rc)])
      obtain ⟨T9, X9, e9, st9⟩ := getF X8 hx hZ hown (host := "") (Or.inl (hw _ (List.mem_of_getElem? (i := 108) rfl))) Via.refl e8 f26_lp0__6 (g := (mkF m 66 #[.val (.ref a), .val (.int (0 : Int32)), .val (.ref rc), .val (.int (((64 : Int32) * (Int32.ofNat K)) + (ntz (G K)))), .unset] [(.ref a), (.ref rc)])) rfl rfl (hb hby d15_66)
      refine Go.step (st9) ?_
      show Go _ _ _ _ _ _ _ T9 (mkF m 69 #[_, _, _, _, _] [(.int (Int32.ofNat K)), (.ref rc)])
      refine Go.step (fun tt kk => by jvm_step X9.here [X9.here.top, hx, (hb hby d15_69), Value.category]; exact kk) ?_
      show Go _ _ _ _ _ _ _ T9 (mkF m 70 #[_, _, _, _, _] [(.int (Int32.ofNat K)), (.ref rc), (.int (Int32.ofNat K)), (.ref rc)])
      refine Go.step (a_jload X9 hx hZ e9 f26_lp0__8 (k := K) (Int32.toInt_ofNat_of_lt (by omega)) hK (x := (G K)) rfl (hb hby d15_70)) ?_
      show Go _ _ _ _ _ _ _ T9 (mkF m 71 #[_, _, _, _, _] [(.long (G K)), (.int (Int32.ofNat K)), (.ref rc)])
      refine Go.step (fun tt kk => XS.aloadN X9.here hx rfl (hb hby d15_71) rfl rfl kk) ?_
      show Go _ _ _ _ _ _ _ T9 (mkF m 72 #[_, _, _, _, _] [(.ref rc), (.long (G K)), (.int (Int32.ofNat K)), (.ref rc)])
      refine Go.step (fun tt kk => XS.aloadN X9.here hx rfl (hb hby d15_72) rfl rfl kk) ?_
      show Go _ _ _ _ _ _ _ T9 (mkF m 73 #[_, _, _, _, _] [(.ref a), (.ref rc), (.long (G K)), (.int (Int32.ofNat K)), (.ref rc)])
      obtain ⟨T10, X10, e10, st10⟩ := getF X9 hx hZ hown (host := "") (Or.inl (hw _ (List.mem_of_getElem? (i := 108) rfl))) Via.refl e9 f26_lp0__6 (g := (mkF m 73 #[.val (.ref a), .val (.int (0 : Int32)), .val (.ref rc), .val (.int (((64 : Int32) * (Int32.ofNat K)) + (ntz (G K)))), .unset] [(.ref a), (.ref rc), (.long (G K)), (.int (Int32.ofNat K)), (.ref rc)])) rfl rfl (hb hby d15_73)
      refine Go.step (st10) ?_
      show Go _ _ _ _ _ _ _ T10 (mkF m 76 #[_, _, _, _, _] [(.int (Int32.ofNat K)), (.ref rc), (.long (G K)), (.int (Int32.ofNat K)), (.ref rc)])
      refine Go.step (a_jload X10 hx hZ e10 f26_lp0__8 (k := K) (Int32.toInt_ofNat_of_lt (by omega)) hK (x := (G K)) rfl (hb hby d15_76)) ?_
      show Go _ _ _ _ _ _ _ T10 (mkF m 77 #[_, _, _, _, _] [(.long (G K)), (.long (G K)), (.int (Int32.ofNat K)), (.ref rc)])
      refine Go.step (fun tt kk => XS.lconst X10.here hx rfl (hb hby d15_77) kk) ?_
      show Go _ _ _ _ _ _ _ T10 (mkF m 78 #[_, _, _, _, _] [(.long (1 : Int64)), (.long (G K)), (.long (G K)), (.int (Int32.ofNat K)), (.ref rc)])
      refine Go.step (fun tt kk => XS.lsub X10.here hx rfl (hb hby d15_78) rfl kk) ?_
      show Go _ _ _ _ _ _ _ T10 (mkF m 79 #[_, _, _, _, _] [(.long ((G K) - (1 : Int64))), (.long (G K)), (.int (Int32.ofNat K)), (.ref rc)])
      refine Go.step (fun tt kk => XS.land X10.here hx rfl (hb hby d15_79) rfl kk) ?_
      show Go _ _ _ _ _ _ _ T10 (mkF m 80 #[_, _, _, _, _] [(.long ((G K) &&& ((G K) - (1 : Int64)))), (.int (Int32.ofNat K)), (.ref rc)])
      obtain ⟨cl11, Ar11, hin11, -⟩ := f26_lp0__8.at (j := (Int32.ofNat K)) (k := K) (Int32.toInt_ofNat_of_lt (by omega)) hK
      obtain ⟨T11, h11, X11, e11, W11, st11⟩ := stJ X10 hx hZ e10 Ar11 (j := (Int32.ofNat K)) hin11 (g := (mkF m 80 #[.val (.ref a), .val (.int (0 : Int32)), .val (.ref rc), .val (.int (((64 : Int32) * (Int32.ofNat K)) + (ntz (G K)))), .unset] [(.long ((G K) &&& ((G K) - (1 : Int64)))), (.int (Int32.ofNat K)), (.ref rc)])) rfl rfl (hb hby d15_80)
      have V11 : AV Z h11 rc .long nc (upd (lv G) K (.long ((G K) &&& ((G K) - (1 : Int64))))) := AV.set f26_lp0__8 (k := K) (Int32.toInt_ofNat_of_lt (by omega)) hK W11
      have N11 := Fr.snoc X11 N8 g_rc
      have Z11 : n0 ≤ h11.size := Nat.le_trans Z26_lp0_ (Keep.of_wr W11).1
      have K11 : Keep hI h11 [a, rr, rc] := K26_lp0_.wr W11 (Or.inl (List.mem_of_getElem? (i := 2) rfl))
      refine Go.step (st11) ?_
      show Go _ _ _ _ _ _ _ T11 (mkF m 81 #[_, _, _, _, _] [])
      refine Go.step (fun tt kk => XS.aloadN X11.here hx rfl (hb hby d15_81) rfl rfl kk) ?_
      show Go _ _ _ _ _ _ _ T11 (mkF m 82 #[_, _, _, _, _] [(.ref a)])
      have f13 := (Fld.other W11 f26_lp0__5 (Or.inl ne_a_rc))
      obtain ⟨T12, X12, e12, st12⟩ := getF X11 hx hZ hown (host := "") (Or.inl (hw _ (List.mem_of_getElem? (i := 106) rfl))) Via.refl e11 f13 (g := (mkF m 82 #[.val (.ref a), .val (.int (0 : Int32)), .val (.ref rc), .val (.int (((64 : Int32) * (Int32.ofNat K)) + (ntz (G K)))), .unset] [(.ref a)])) rfl rfl (hb hby d15_82)
      refine Go.step (st12) ?_
      show Go _ _ _ _ _ _ _ T12 (mkF m 85 #[_, _, _, _, _] [(.int (0 : Int32))])
      refine Go.step (fun tt kk => XS.ifYes X12.here hx rfl (pc0 := 85) (pc' := 92) rfl (hb hby d15_85) rfl ((if0 _ _).trans (teq (by decide)).1) (by decide) (by decide) kk) ?_
      show Go _ _ _ _ _ _ _ T12 (mkF m 92 #[_, _, _, _, _] [])
      refine Go.step (fun tt kk => XS.aloadN X12.here hx rfl (hb hby d15_92) rfl rfl kk) ?_
      show Go _ _ _ _ _ _ _ T12 (mkF m 93 #[_, _, _, _, _] [(.ref a)])
      have f15 := (Fld.other W11 f26_lp0__1 (Or.inl ne_a_rc))
      obtain ⟨T14, X14, e14, st14⟩ := getF X12 hx hZ hown (host := "") (Or.inl (hw _ (List.mem_of_getElem? (i := 100) rfl))) (Via.of (hw _ (List.mem_of_getElem? (i := 101) rfl))) e12 f15 (g := (mkF m 93 #[.val (.ref a), .val (.int (0 : Int32)), .val (.ref rc), .val (.int (((64 : Int32) * (Int32.ofNat K)) + (ntz (G K)))), .unset] [(.ref a)])) rfl rfl (hb hby d15_93)
      refine Go.step (st14) ?_
      show Go _ _ _ _ _ _ _ T14 (mkF m 96 #[_, _, _, _, _] [(.int (Int32.ofNat H))])
      refine Go.step (fun tt kk => XS.iloadN X14.here hx rfl (hb hby d15_96) rfl kk) ?_
      show Go _ _ _ _ _ _ _ T14 (mkF m 97 #[_, _, _, _, _] [(.int (((64 : Int32) * (Int32.ofNat K)) + (ntz (G K)))), (.int (Int32.ofNat H))])
      refine Go.step (fun tt kk => XS.iadd X14.here hx rfl (hb hby d15_97) rfl kk) ?_
      show Go _ _ _ _ _ _ _ T14 (mkF m 98 #[_, _, _, _, _] [(.int ((Int32.ofNat H) + (((64 : Int32) * (Int32.ofNat K)) + (ntz (G K)))))])
      refine Go.step (fun tt kk => XS.istore X14.here hx rfl (hb hby d15_98) rfl (l' := #[.val (.ref a), .val (.int (0 : Int32)), .val (.ref rc), .val (.int (((64 : Int32) * (Int32.ofNat K)) + (ntz (G K)))), .val (.int ((Int32.ofNat H) + (((64 : Int32) * (Int32.ofNat K)) + (ntz (G K)))))]) rfl kk) ?_
      show Go _ _ _ _ _ _ _ T14 (mkF m 100 #[_, _, _, _, _] [])
      refine Go.step (fun tt kk => XS.aloadN X14.here hx rfl (hb hby d15_100) rfl rfl kk) ?_
      show Go _ _ _ _ _ _ _ T14 (mkF m 101 #[_, _, _, _, _] [(.ref a)])
      refine Go.step (fun tt kk => XS.dup X14.here hx rfl (hb hby d15_101) rfl rfl kk) ?_
      show Go _ _ _ _ _ _ _ T14 (mkF m 102 #[_, _, _, _, _] [(.ref a), (.ref a)])
      have f17 := (Fld.other W11 f26_lp0__2 (Or.inl ne_a_rc))
      obtain ⟨T16, X16, e16, st16⟩ := getF X14 hx hZ hown (host := "") (Or.inl (hw _ (List.mem_of_getElem? (i := 129) rfl))) (Via.of (hw _ (List.mem_of_getElem? (i := 130) rfl))) e14 f17 (g := (mkF m 102 #[.val (.ref a), .val (.int (0 : Int32)), .val (.ref rc), .val (.int (((64 : Int32) * (Int32.ofNat K)) + (ntz (G K)))), .val (.int ((Int32.ofNat H) + (((64 : Int32) * (Int32.ofNat K)) + (ntz (G K)))))] [(.ref a), (.ref a)])) rfl rfl (hb hby d15_102)
      refine Go.step (st16) ?_
      show Go _ _ _ _ _ _ _ T16 (mkF m 105 #[_, _, _, _, _] [(.long tk), (.ref a)])
      refine Go.step (fun tt kk => XS.lconst X16.here hx rfl (hb hby d15_105) kk) ?_
      show Go _ _ _ _ _ _ _ T16 (mkF m 106 #[_, _, _, _, _] [(.long (1 : Int64)), (.long tk), (.ref a)])
      refine Go.step (fun tt kk => XS.iload X16.here hx rfl (hb hby d15_106) rfl kk) ?_
      show Go _ _ _ _ _ _ _ T16 (mkF m 108 #[_, _, _, _, _] [(.int ((Int32.ofNat H) + (((64 : Int32) * (Int32.ofNat K)) + (ntz (G K))))), (.long (1 : Int64)), (.long tk), (.ref a)])
      refine Go.step (fun tt kk => XS.lshl X16.here hx rfl (hb hby d15_108) rfl kk) ?_
      show Go _ _ _ _ _ _ _ T16 (mkF m 109 #[_, _, _, _, _] [(.long ((1 : Int64) <<< (((Int32.ofNat H) + (((64 : Int32) * (Int32.ofNat K)) + (ntz (G K)))) &&& 0x3f).toInt64)), (.long tk), (.ref a)])
      refine Go.step (fun tt kk => XS.lor X16.here hx rfl (hb hby d15_109) rfl kk) ?_
      show Go _ _ _ _ _ _ _ T16 (mkF m 110 #[_, _, _, _, _] [(.long (tk ||| ((1 : Int64) <<< (((Int32.ofNat H) + (((64 : Int32) * (Int32.ofNat K)) + (ntz (G K)))) &&& 0x3f).toInt64))), (.ref a)])
      have f19 := (Exa.wr W11 f26_lp0__0)
      obtain ⟨T18, h18, X18, e18, W18, st18⟩ := putF X16 hx hZ hown (host := "") (Or.inl (hw _ (List.mem_of_getElem? (i := 129) rfl))) (Via.of (hw _ (List.mem_of_getElem? (i := 130) rfl))) e16 f17 f19 (Or.inl (hw _ (List.mem_of_getElem? (i := 86) rfl))) (hw _ (List.mem_of_getElem? (i := 2) rfl)) (ty := .long) (by decide) rfl rfl (g := (mkF m 110 #[.val (.ref a), .val (.int (0 : Int32)), .val (.ref rc), .val (.int (((64 : Int32) * (Int32.ofNat K)) + (ntz (G K)))), .val (.int ((Int32.ofNat H) + (((64 : Int32) * (Int32.ofNat K)) + (ntz (G K)))))] [(.long (tk ||| ((1 : Int64) <<< (((Int32.ofNat H) + (((64 : Int32) * (Int32.ofNat K)) + (ntz (G K)))) &&& 0x3f).toInt64))), (.ref a)])) rfl rfl (hb hby d15_110)
      have F18 := Fld.same W18 f17
      have N18 := Fr.snoc X18 N11 g_a
      have Z18 : n0 ≤ h18.size := Nat.le_trans Z11 (Keep.of_wr W18).1
      have K18 : Keep hI h18 [a, rr, rc] := K11.wr W18 (Or.inl (List.mem_of_getElem? (i := 0) rfl))
      refine Go.step (st18) ?_
      show Go _ _ _ _ _ _ _ T18 (mkF m 113 #[_, _, _, _, _] [])
      refine Go.step (fun tt kk => XS.iload X18.here hx rfl (hb hby d15_113) rfl kk) ?_
      show Go _ _ _ _ _ _ _ T18 (mkF m 115 #[_, _, _, _, _] [(.int ((Int32.ofNat H) + (((64 : Int32) * (Int32.ofNat K)) + (ntz (G K)))))])
      have f20 := (Exa.wr W18 f19)
      have f21 := (Fld.other W18 f15 (Or.inr (slot_ne (Or.inr (hw _ (List.mem_of_getElem? (i := 18) rfl))) (Or.inl (hw _ (List.mem_of_getElem? (i := 86) rfl))) (by decide) (t := .int) (t' := .long) (by decide) (by decide))))
      have f22 := (Fld.other W18 (Fld.other W11 f26_lp0__3 (Or.inl ne_a_rc)) (Or.inr (slot_ne (Or.inr (hw _ (List.mem_of_getElem? (i := 39) rfl))) (Or.inl (hw _ (List.mem_of_getElem? (i := 86) rfl))) (by decide) (t := (.array .long)) (t' := .long) (by decide) (by decide))))
      have f23 := (Fld.other W18 (Fld.other W11 f26_lp0__4 (Or.inl ne_a_rc)) (Or.inr (slot_ne (Or.inr (hw _ (List.mem_of_getElem? (i := 41) rfl))) (Or.inl (hw _ (List.mem_of_getElem? (i := 86) rfl))) (by decide) (t := (.array .long)) (t' := .long) (by decide) (by decide))))
      have f24 := (Fld.other W18 f13 (Or.inr (slot_ne (Or.inl (hw _ (List.mem_of_getElem? (i := 107) rfl))) (Or.inl (hw _ (List.mem_of_getElem? (i := 86) rfl))) (by decide) (t := .boolean) (t' := .long) (by decide) (by decide))))
      have f25 := (Fld.other W18 (Fld.other W11 f26_lp0__6 (Or.inl ne_a_rc)) (Or.inr (slot_ne (Or.inl (hw _ (List.mem_of_getElem? (i := 109) rfl))) (Or.inl (hw _ (List.mem_of_getElem? (i := 86) rfl))) (by decide) (t := .int) (t' := .long) (by decide) (by decide))))
      have f26 := ((f26_lp0__7.other W11 ne_rr_rc).other W18 (Ne.symm ne_a_rr))
      have f27 := (V11.other W18 (Ne.symm ne_a_rc))
      refine go_retI X18 hx hret hlk (hb hby d15_115) ?_ (by decide) (by decide)
      try rw [e18]
      exact ⟨_, rfl, N18, eI ▸ K18, f20, f21, F18, f22, f23, f24, f25, f26, (AV.congr (g := lv (loAt G K)) f27 fun i hi => by
          by_cases q : i = K
          · subst q; exact upd_eq.trans (congrArg Value.long (if_pos rfl).symm)
          · exact (upd_ne q).trans (congrArg Value.long (if_neg q).symm))⟩
    | succ u ih =>
      intro  T26_lp0_ lc26_lp0_ hh26_lp0_ X26_lp0_ e26_lp0_ N26_lp0_ Z26_lp0_ K26_lp0_ f26_lp0__0 f26_lp0__1 f26_lp0__2 f26_lp0__3 f26_lp0__4 f26_lp0__5 f26_lp0__6 f26_lp0__7 f26_lp0__8 hu0
      show Go _ _ _ _ _ _ _ T26_lp0_ (mkF m 26 #[.val (.ref a), .val (.int (0 : Int32)), .val (.ref rc), .unset, .unset] [])
      refine Go.step (fun tt kk => XS.aloadN X26_lp0_.here hx rfl (hb hby d15_26) rfl rfl kk) ?_
      show Go _ _ _ _ _ _ _ T26_lp0_ (mkF m 27 #[_, _, _, _, _] [(.ref a)])
      obtain ⟨T28, X28, e28, st28⟩ := getF X26_lp0_ hx hZ hown (host := "") (Or.inl (hw _ (List.mem_of_getElem? (i := 108) rfl))) Via.refl e26_lp0_ f26_lp0__6 (g := (mkF m 27 #[.val (.ref a), .val (.int (0 : Int32)), .val (.ref rc), .unset, .unset] [(.ref a)])) rfl rfl (hb hby d15_27)
      refine Go.step (st28) ?_
      show Go _ _ _ _ _ _ _ T28 (mkF m 30 #[_, _, _, _, _] [(.int (Int32.ofNat (K - (u + 1))))])
      refine Go.step (fun tt kk => XS.aloadN X28.here hx rfl (hb hby d15_30) rfl rfl kk) ?_
      show Go _ _ _ _ _ _ _ T28 (mkF m 31 #[_, _, _, _, _] [(.ref rc), (.int (Int32.ofNat (K - (u + 1))))])
      refine Go.step (a_len X28 hx hZ e28 f26_lp0__8 (z := (Int32.ofNat nc)) (Int32.toInt_ofNat_of_lt (by omega)) (hb hby d15_31)) ?_
      show Go _ _ _ _ _ _ _ T28 (mkF m 32 #[_, _, _, _, _] [(.int (Int32.ofNat nc)), (.int (Int32.ofNat (K - (u + 1))))])
      refine Go.step (fun tt kk => XS.icmpNo X28.here hx rfl (hb hby d15_32) rfl (tlt ((own_lt (K - (u + 1)) nc (by omega) (by omega)).mpr (by omega))).2.1 kk) ?_
      show Go _ _ _ _ _ _ _ T28 (mkF m 35 #[_, _, _, _, _] [])
      refine Go.step (fun tt kk => XS.aloadN X28.here hx rfl (hb hby d15_35) rfl rfl kk) ?_
      show Go _ _ _ _ _ _ _ T28 (mkF m 36 #[_, _, _, _, _] [(.ref rc)])
      refine Go.step (fun tt kk => XS.aloadN X28.here hx rfl (hb hby d15_36) rfl rfl kk) ?_
      show Go _ _ _ _ _ _ _ T28 (mkF m 37 #[_, _, _, _, _] [(.ref a), (.ref rc)])
      obtain ⟨T29, X29, e29, st29⟩ := getF X28 hx hZ hown (host := "") (Or.inl (hw _ (List.mem_of_getElem? (i := 108) rfl))) Via.refl e28 f26_lp0__6 (g := (mkF m 37 #[.val (.ref a), .val (.int (0 : Int32)), .val (.ref rc), .unset, .unset] [(.ref a), (.ref rc)])) rfl rfl (hb hby d15_37)
      refine Go.step (st29) ?_
      show Go _ _ _ _ _ _ _ T29 (mkF m 40 #[_, _, _, _, _] [(.int (Int32.ofNat (K - (u + 1)))), (.ref rc)])
      refine Go.step (a_jload X29 hx hZ e29 f26_lp0__8 (k := (K - (u + 1))) (Int32.toInt_ofNat_of_lt (by omega)) (by omega) (x := (G (K - (u + 1)))) rfl (hb hby d15_40)) ?_
      show Go _ _ _ _ _ _ _ T29 (mkF m 41 #[_, _, _, _, _] [(.long (G (K - (u + 1))))])
      refine Go.step (fun tt kk => XS.lconst X29.here hx rfl (hb hby d15_41) kk) ?_
      show Go _ _ _ _ _ _ _ T29 (mkF m 42 #[_, _, _, _, _] [(.long (0 : Int64)), (.long (G (K - (u + 1))))])
      refine Go.step (fun tt kk => XS.lcmp X29.here hx rfl (hb hby d15_42) rfl kk) ?_
      show Go _ _ _ _ _ _ _ T29 (mkF m 43 #[_, _, _, _, _] [(.int (lcmpW (G (K - (u + 1))) (0 : Int64)))])
      refine Go.step (fun tt kk => XS.ifYes X29.here hx rfl (pc0 := 43) (pc' := 116) rfl (hb hby d15_43) rfl ((if0 _ _).trans (teq ((lw_eq _ _).mpr (hz0 (K - (u + 1)) (by omega) (by omega)))).1) (by decide) (by decide) kk) ?_
      show Go _ _ _ _ _ _ _ T29 (mkF m 116 #[_, _, _, _, _] [])
      refine Go.step (fun tt kk => XS.aloadN X29.here hx rfl (hb hby d15_116) rfl rfl kk) ?_
      show Go _ _ _ _ _ _ _ T29 (mkF m 117 #[_, _, _, _, _] [(.ref a)])
      refine Go.step (fun tt kk => XS.dup X29.here hx rfl (hb hby d15_117) rfl rfl kk) ?_
      show Go _ _ _ _ _ _ _ T29 (mkF m 118 #[_, _, _, _, _] [(.ref a), (.ref a)])
      obtain ⟨T30, X30, e30, st30⟩ := getF X29 hx hZ hown (host := "") (Or.inl (hw _ (List.mem_of_getElem? (i := 108) rfl))) Via.refl e29 f26_lp0__6 (g := (mkF m 118 #[.val (.ref a), .val (.int (0 : Int32)), .val (.ref rc), .unset, .unset] [(.ref a), (.ref a)])) rfl rfl (hb hby d15_118)
      refine Go.step (st30) ?_
      show Go _ _ _ _ _ _ _ T30 (mkF m 121 #[_, _, _, _, _] [(.int (Int32.ofNat (K - (u + 1)))), (.ref a)])
      refine Go.step (fun tt kk => XS.iconst X30.here hx rfl (hb hby d15_121) kk) ?_
      show Go _ _ _ _ _ _ _ T30 (mkF m 122 #[_, _, _, _, _] [(.int (1 : Int32)), (.int (Int32.ofNat (K - (u + 1)))), (.ref a)])
      refine Go.step (fun tt kk => XS.iadd X30.here hx rfl (hb hby d15_122) rfl kk) ?_
      show Go _ _ _ _ _ _ _ T30 (mkF m 123 #[_, _, _, _, _] [(.int ((Int32.ofNat (K - (u + 1))) + (1 : Int32))), (.ref a)])
      rw [own_up K u (by omega)]
      show Go _ _ _ _ _ _ _ T30 (mkF m 123 #[.val (.ref a), .val (.int (0 : Int32)), .val (.ref rc), .unset, .unset] [(.int (Int32.ofNat (K - u))), (.ref a)])
      obtain ⟨T31, h31, X31, e31, W31, st31⟩ := putF X30 hx hZ hown (host := "") (Or.inl (hw _ (List.mem_of_getElem? (i := 108) rfl))) Via.refl e30 f26_lp0__6 f26_lp0__0 (Or.inl (hw _ (List.mem_of_getElem? (i := 109) rfl))) (hw _ (List.mem_of_getElem? (i := 2) rfl)) (ty := .int) (by decide) rfl rfl (g := (mkF m 123 #[.val (.ref a), .val (.int (0 : Int32)), .val (.ref rc), .unset, .unset] [(.int (Int32.ofNat (K - u))), (.ref a)])) rfl rfl (hb hby d15_123)
      have F31 := Fld.same W31 f26_lp0__6
      have N31 := Fr.snoc X31 N26_lp0_ g_a
      have Z31 : n0 ≤ h31.size := Nat.le_trans Z26_lp0_ (Keep.of_wr W31).1
      have K31 : Keep hI h31 [a, rr, rc] := K26_lp0_.wr W31 (Or.inl (List.mem_of_getElem? (i := 0) rfl))
      refine Go.step (st31) ?_
      show Go _ _ _ _ _ _ _ T31 (mkF m 126 #[_, _, _, _, _] [])
      refine Go.step (fun tt kk => XS.goto X31.here hx rfl (pc0 := 126) (pc' := 26) rfl (hb hby d15_126) (by decide) (by decide) kk) ?_
      show Go _ _ _ _ _ _ _ T31 (mkF m 26 #[_, _, _, _, _] [])
      have f32 := (Exa.wr W31 f26_lp0__0)
      have f33 := (Fld.other W31 f26_lp0__1 (Or.inr (slot_ne (Or.inr (hw _ (List.mem_of_getElem? (i := 18) rfl))) (Or.inl (hw _ (List.mem_of_getElem? (i := 109) rfl))) (by decide) (t := .int) (t' := .int) (by decide) (by decide))))
      have f34 := (Fld.other W31 f26_lp0__2 (Or.inr (slot_ne (Or.inl (hw _ (List.mem_of_getElem? (i := 86) rfl))) (Or.inl (hw _ (List.mem_of_getElem? (i := 109) rfl))) (by decide) (t := .long) (t' := .int) (by decide) (by decide))))
      have f35 := (Fld.other W31 f26_lp0__3 (Or.inr (slot_ne (Or.inr (hw _ (List.mem_of_getElem? (i := 39) rfl))) (Or.inl (hw _ (List.mem_of_getElem? (i := 109) rfl))) (by decide) (t := (.array .long)) (t' := .int) (by decide) (by decide))))
      have f36 := (Fld.other W31 f26_lp0__4 (Or.inr (slot_ne (Or.inr (hw _ (List.mem_of_getElem? (i := 41) rfl))) (Or.inl (hw _ (List.mem_of_getElem? (i := 109) rfl))) (by decide) (t := (.array .long)) (t' := .int) (by decide) (by decide))))
      have f37 := (Fld.other W31 f26_lp0__5 (Or.inr (slot_ne (Or.inl (hw _ (List.mem_of_getElem? (i := 107) rfl))) (Or.inl (hw _ (List.mem_of_getElem? (i := 109) rfl))) (by decide) (t := .boolean) (t' := .int) (by decide) (by decide))))
      have f38 := (f26_lp0__7.other W31 (Ne.symm ne_a_rr))
      have f39 := (f26_lp0__8.other W31 (Ne.symm ne_a_rc))
      exact ih  _ _ _ (X31.more (by decide) (by decide)) e31 N31 Z31 K31 f32 f33 f34 f35 f36 f37 F31 f38 f39 (by omega)
  exact lp0_26 (K - k)  _ _ _ (X2.more (by decide) (by decide)) e2 N0 Z0 K0 E_a F_0 F_1 F_2 F_3 F_4 f3 V_rr V_rc (by omega)
theorem ef_rmNs1 (m : MethodId) (x0 : Addr) : entryFrame m #[(.ref x0)] 5 = mkF m 0 #[.val (.ref x0), .unset, .unset, .unset, .unset] [] := by first | (simp [entryFrame, mkF, argsToLocals, Value.category]; done) | rfl
theorem d15_129 : decode prog_61_method_7_code 129 = .ok (.aload_n 0, 1) := by decide +kernel
theorem d15_130 : decode prog_61_method_7_code 130 = .ok (.aload_n 0, 1) := by decide +kernel
theorem d15_131 : decode prog_61_method_7_code 131 = .ok (.getfield 61, 3) := by decide +kernel
theorem d15_134 : decode prog_61_method_7_code 134 = .ok (.ifCond .ne 7, 3) := by decide +kernel
theorem d15_141 : decode prog_61_method_7_code 141 = .ok (.iconst 0, 1) := by decide +kernel
theorem d15_142 : decode prog_61_method_7_code 142 = .ok (.putfield 61, 3) := by decide +kernel
theorem d15_145 : decode prog_61_method_7_code 145 = .ok (.aload_n 0, 1) := by decide +kernel
theorem d15_146 : decode prog_61_method_7_code 146 = .ok (.iconst 0, 1) := by decide +kernel
theorem d15_147 : decode prog_61_method_7_code 147 = .ok (.putfield 65, 3) := by decide +kernel
theorem d15_150 : decode prog_61_method_7_code 150 = .ok (.iinc 1 1, 3) := by decide +kernel
theorem d15_153 : decode prog_61_method_7_code 153 = .ok (.goto (-151), 3) := by decide +kernel
set_option maxRecDepth 65536 in
set_option maxHeartbeats 40000000 in
theorem rmNs1 (l : Launch) (Z : State) (a0 : Array Value) (hw : ∀ d ∈ tables_1, d.before a0 Z = true) (ws : List Jvm.Cond) (a rr rc : Addr) (H nr nc k K : Nat) (tk : Int64) (F G : Nat → Int64) (h0 : Heap) (n0 : Nat) (Z0 : n0 ≤ h0.size) (E_a : Exa Z h0 a "com/example/gridwright/gridwright/engine/LargeDraft") (F_0 : Fld Z h0 a "com/example/gridwright/gridwright/engine/Draft" "height" "I" (.int (Int32.ofNat H))) (F_1 : Fld Z h0 a "com/example/gridwright/gridwright/engine/Draft" "taken" "J" (.long tk)) (F_2 : Fld Z h0 a "com/example/gridwright/gridwright/engine/LargeDraft" "waitingRows" "[J" (.ref rr)) (F_3 : Fld Z h0 a "com/example/gridwright/gridwright/engine/LargeDraft" "waitingColumns" "[J" (.ref rc)) (F_4 : Fld Z h0 a "com/example/gridwright/gridwright/engine/LargeDraft" "rows" "Z" (.int (1 : Int32))) (F_5 : Fld Z h0 a "com/example/gridwright/gridwright/engine/LargeDraft" "scan" "I" (.int (Int32.ofNat k))) (V_rr : AV Z h0 rr .long nr (lv F)) (V_rc : AV Z h0 rc .long nc (lv G)) (g_a : n0 ≤ a) (g_rr : n0 ≤ rr) (g_rc : n0 ≤ rc) (ne_a_rr : a ≠ rr) (ne_a_rc : a ≠ rc) (ne_rr_rc : rr ≠ rc) (hnr : nr ≤ 2) (hnc : nc ≤ 2) (hk : k ≤ nr) (hK : K < nc) (hz0 : ∀ j, k ≤ j → j < nr → F j = 0) (hz1 : ∀ j, 0 ≤ j → j < K → G j = 0) (hnz : ¬ G K = 0) :
    Ctr l Z (⟨"com/example/gridwright/gridwright/engine/LargeDraft", "next", "()I"⟩ : MethodName) prog_61_method_7_code 5 (some .int) ws ({ frames := 2, cells := 0, slots := 0, locals := 29 } : Room) 0 0 #[(.ref a)] h0 (fun v h L => ∃ tk' : Int64, v = some (.int (Int32.ofNat H + ((64 : Int32) * Int32.ofNat K + ntz (G K)))) ∧ Fr n0 L ∧ Keep h0 h [a, rr, rc] ∧ Exa Z h a "com/example/gridwright/gridwright/engine/LargeDraft" ∧ Fld Z h a "com/example/gridwright/gridwright/engine/Draft" "height" "I" (.int (Int32.ofNat H)) ∧ Fld Z h a "com/example/gridwright/gridwright/engine/Draft" "taken" "J" (.long tk') ∧ Fld Z h a "com/example/gridwright/gridwright/engine/LargeDraft" "waitingRows" "[J" (.ref rr) ∧ Fld Z h a "com/example/gridwright/gridwright/engine/LargeDraft" "waitingColumns" "[J" (.ref rc) ∧ Fld Z h a "com/example/gridwright/gridwright/engine/LargeDraft" "rows" "Z" (.int (0 : Int32)) ∧ Fld Z h a "com/example/gridwright/gridwright/engine/LargeDraft" "scan" "I" (.int (Int32.ofNat K)) ∧ AV Z h rr .long nr (lv F) ∧ AV Z h rc .long nc (lv (loAt G K))) := by
  refine Ctr.mk (plainFor_of_name pn_4) fun p e s m below meth c T0 X0 C e0 => go_cast (ef_rmNs1 m a) ?_
  have N0 := Fr.nil n0
  obtain ⟨hx, hZ, hby, hml, hown, hnm, hret, hlk⟩ := C
  obtain ⟨hI, eI⟩ : ∃ z, z = h0 := ⟨_, rfl⟩
  have K0 : Keep hI h0 [a, rr, rc] := by rw [eI]; exact Keep.refl _ _
  show Go _ _ _ _ _ _ _ T0 (mkF m 0 #[.val (.ref a), .unset, .unset, .unset, .unset] [])
  refine Go.step (fun tt kk => XS.iconst X0.here hx rfl (hb hby d15_0) kk) ?_
  show Go _ _ _ _ _ _ _ T0 (mkF m 1 #[_, _, _, _, _] [(.int (0 : Int32))])
  refine Go.step (fun tt kk => XS.istoreN X0.here hx rfl (hb hby d15_1) rfl (l' := #[.val (.ref a), .val (.int (0 : Int32)), .unset, .unset, .unset]) rfl kk) ?_
  show Go _ _ _ _ _ _ _ T0 (mkF m 2 #[_, _, _, _, _] [])
  refine Go.step (fun tt kk => XS.iloadN X0.here hx rfl (hb hby d15_2) rfl kk) ?_
  show Go _ _ _ _ _ _ _ T0 (mkF m 3 #[_, _, _, _, _] [(.int (0 : Int32))])
  refine Go.step (fun tt kk => XS.iconst X0.here hx rfl (hb hby d15_3) kk) ?_
  show Go _ _ _ _ _ _ _ T0 (mkF m 4 #[_, _, _, _, _] [(.int (2 : Int32)), (.int (0 : Int32))])
  refine Go.step (fun tt kk => XS.icmpNo X0.here hx rfl (hb hby d15_4) rfl (tlt (by decide)).2.1 kk) ?_
  show Go _ _ _ _ _ _ _ T0 (mkF m 7 #[_, _, _, _, _] [])
  refine Go.step (fun tt kk => XS.aloadN X0.here hx rfl (hb hby d15_7) rfl rfl kk) ?_
  show Go _ _ _ _ _ _ _ T0 (mkF m 8 #[_, _, _, _, _] [(.ref a)])
  obtain ⟨T1, X1, e1, st1⟩ := getF X0 hx hZ hown (host := "") (Or.inl (hw _ (List.mem_of_getElem? (i := 106) rfl))) Via.refl e0 F_4 (g := (mkF m 8 #[.val (.ref a), .val (.int (0 : Int32)), .unset, .unset, .unset] [(.ref a)])) rfl rfl (hb hby d15_8)
  refine Go.step (st1) ?_
  show Go _ _ _ _ _ _ _ T1 (mkF m 11 #[_, _, _, _, _] [(.int (1 : Int32))])
  refine Go.step (fun tt kk => XS.ifNo X1.here hx rfl (hb hby d15_11) rfl ((if0 _ _).trans (feq (by decide)).1) kk) ?_
  show Go _ _ _ _ _ _ _ T1 (mkF m 14 #[_, _, _, _, _] [])
  refine Go.step (fun tt kk => XS.aloadN X1.here hx rfl (hb hby d15_14) rfl rfl kk) ?_
  show Go _ _ _ _ _ _ _ T1 (mkF m 15 #[_, _, _, _, _] [(.ref a)])
  obtain ⟨T2, X2, e2, st2⟩ := getF X1 hx hZ hown (host := "") (Or.inl (hw _ (List.mem_of_getElem? (i := 38) rfl))) Via.refl e1 F_2 (g := (mkF m 15 #[.val (.ref a), .val (.int (0 : Int32)), .unset, .unset, .unset] [(.ref a)])) rfl rfl (hb hby d15_15)
  refine Go.step (st2) ?_
  show Go _ _ _ _ _ _ _ T2 (mkF m 18 #[_, _, _, _, _] [(.ref rr)])
  refine Go.step (fun tt kk => XS.goto X2.here hx rfl (pc0 := 18) (pc' := 25) rfl (hb hby d15_18) (by decide) (by decide) kk) ?_
  show Go _ _ _ _ _ _ _ T2 (mkF m 25 #[_, _, _, _, _] [(.ref rr)])
  refine Go.step (fun tt kk => XS.astoreN X2.here hx rfl (hb hby d15_25) rfl rfl (l' := #[.val (.ref a), .val (.int (0 : Int32)), .val (.ref rr), .unset, .unset]) rfl kk) ?_
  show Go _ _ _ _ _ _ _ T2 (mkF m 26 #[_, _, _, _, _] [])
  have f3 : Fld Z h0 a "com/example/gridwright/gridwright/engine/LargeDraft" "scan" "I" (.int (Int32.ofNat (nr - (nr - k)))) := by
    have q := F_5
    rw [show nr - (nr - k) = k by omega]; exact q
  have lp0_26 : ∀ (u : Nat)  (T26_lp0_ : State) (lc26_lp0_ : List Loc) (hh26_lp0_ : Heap) (X26_lp0_ : Stand p l e ({ frames := 2, cells := 0, slots := 0, locals := 29 } : Room) s m #[(.ref a)] below meth c T26_lp0_ lc26_lp0_ 0 0) (e26_lp0_ : T26_lp0_.heap = hh26_lp0_) (N26_lp0_ : Fr n0 lc26_lp0_) (Z26_lp0_ : n0 ≤ hh26_lp0_.size) (K26_lp0_ : Keep hI hh26_lp0_ [a, rr, rc]) (f26_lp0__0 : Exa Z hh26_lp0_ a "com/example/gridwright/gridwright/engine/LargeDraft") (f26_lp0__1 : Fld Z hh26_lp0_ a "com/example/gridwright/gridwright/engine/Draft" "height" "I" (.int (Int32.ofNat H))) (f26_lp0__2 : Fld Z hh26_lp0_ a "com/example/gridwright/gridwright/engine/Draft" "taken" "J" (.long tk)) (f26_lp0__3 : Fld Z hh26_lp0_ a "com/example/gridwright/gridwright/engine/LargeDraft" "waitingRows" "[J" (.ref rr)) (f26_lp0__4 : Fld Z hh26_lp0_ a "com/example/gridwright/gridwright/engine/LargeDraft" "waitingColumns" "[J" (.ref rc)) (f26_lp0__5 : Fld Z hh26_lp0_ a "com/example/gridwright/gridwright/engine/LargeDraft" "rows" "Z" (.int (1 : Int32))) (f26_lp0__6 : Fld Z hh26_lp0_ a "com/example/gridwright/gridwright/engine/LargeDraft" "scan" "I" (.int (Int32.ofNat (nr - u)))) (f26_lp0__7 : AV Z hh26_lp0_ rr .long nr (lv F)) (f26_lp0__8 : AV Z hh26_lp0_ rc .long nc (lv G)) (hu0 : u + k ≤ nr),
      Go p e s below 0 0 (fun v h L => ∃ tk' : Int64, v = some (.int (Int32.ofNat H + ((64 : Int32) * Int32.ofNat K + ntz (G K)))) ∧ Fr n0 L ∧ Keep h0 h [a, rr, rc] ∧ Exa Z h a "com/example/gridwright/gridwright/engine/LargeDraft" ∧ Fld Z h a "com/example/gridwright/gridwright/engine/Draft" "height" "I" (.int (Int32.ofNat H)) ∧ Fld Z h a "com/example/gridwright/gridwright/engine/Draft" "taken" "J" (.long tk') ∧ Fld Z h a "com/example/gridwright/gridwright/engine/LargeDraft" "waitingRows" "[J" (.ref rr) ∧ Fld Z h a "com/example/gridwright/gridwright/engine/LargeDraft" "waitingColumns" "[J" (.ref rc) ∧ Fld Z h a "com/example/gridwright/gridwright/engine/LargeDraft" "rows" "Z" (.int (0 : Int32)) ∧ Fld Z h a "com/example/gridwright/gridwright/engine/LargeDraft" "scan" "I" (.int (Int32.ofNat K)) ∧ AV Z h rr .long nr (lv F) ∧ AV Z h rc .long nc (lv (loAt G K))) T26_lp0_ (mkF m 26 #[.val (.ref a), .val (.int (0 : Int32)), .val (.ref rr), .unset, .unset] []) := by
    intro u
    induction u with
    | zero =>
      intro  T26_lp0_ lc26_lp0_ hh26_lp0_ X26_lp0_ e26_lp0_ N26_lp0_ Z26_lp0_ K26_lp0_ f26_lp0__0 f26_lp0__1 f26_lp0__2 f26_lp0__3 f26_lp0__4 f26_lp0__5 f26_lp0__6 f26_lp0__7 f26_lp0__8 hu0
      show Go _ _ _ _ _ _ _ T26_lp0_ (mkF m 26 #[.val (.ref a), .val (.int (0 : Int32)), .val (.ref rr), .unset, .unset] [])
      refine Go.step (fun tt kk => XS.aloadN X26_lp0_.here hx rfl (hb hby d15_26) rfl rfl kk) ?_
      show Go _ _ _ _ _ _ _ T26_lp0_ (mkF m 27 #[_, _, _, _, _] [(.ref a)])
      obtain ⟨T4, X4, e4, st4⟩ := getF X26_lp0_ hx hZ hown (host := "") (Or.inl (hw _ (List.mem_of_getElem? (i := 108) rfl))) Via.refl e26_lp0_ f26_lp0__6 (g := (mkF m 27 #[.val (.ref a), .val (.int (0 : Int32)), .val (.ref rr), .unset, .unset] [(.ref a)])) rfl rfl (hb hby d15_27)
      refine Go.step (st4) ?_
      show Go _ _ _ _ _ _ _ T4 (mkF m 30 #[_, _, _, _, _] [(.int (Int32.ofNat nr))])
      refine Go.step (fun tt kk => XS.aloadN X4.here hx rfl (hb hby d15_30) rfl rfl kk) ?_
      show Go _ _ _ _ _ _ _ T4 (mkF m 31 #[_, _, _, _, _] [(.ref rr), (.int (Int32.ofNat nr))])
      refine Go.step (a_len X4 hx hZ e4 f26_lp0__7 (z := (Int32.ofNat nr)) (Int32.toInt_ofNat_of_lt (by omega)) (hb hby d15_31)) ?_
      show Go _ _ _ _ _ _ _ T4 (mkF m 32 #[_, _, _, _, _] [(.int (Int32.ofNat nr)), (.int (Int32.ofNat nr))])
      refine Go.step (fun tt kk => XS.icmpYes X4.here hx rfl (pc0 := 32) (pc' := 129) rfl (hb hby d15_32) rfl (flt (mt (own_lt nr nr (by omega) (by omega)).mp (Nat.lt_irrefl _))).2.1 (by decide) (by decide) kk) ?_
      show Go _ _ _ _ _ _ _ T4 (mkF m 129 #[_, _, _, _, _] [])
      refine Go.step (fun tt kk => XS.aloadN X4.here hx rfl (hb hby d15_129) rfl rfl kk) ?_
      show Go _ _ _ _ _ _ _ T4 (mkF m 130 #[_, _, _, _, _] [(.ref a)])
      refine Go.step (fun tt kk => XS.aloadN X4.here hx rfl (hb hby d15_130) rfl rfl kk) ?_
      show Go _ _ _ _ _ _ _ T4 (mkF m 131 #[_, _, _, _, _] [(.ref a), (.ref a)])
      obtain ⟨T5, X5, e5, st5⟩ := getF X4 hx hZ hown (host := "") (Or.inl (hw _ (List.mem_of_getElem? (i := 106) rfl))) Via.refl e4 f26_lp0__5 (g := (mkF m 131 #[.val (.ref a), .val (.int (0 : Int32)), .val (.ref rr), .unset, .unset] [(.ref a), (.ref a)])) rfl rfl (hb hby d15_131)
      refine Go.step (st5) ?_
      show Go _ _ _ _ _ _ _ T5 (mkF m 134 #[_, _, _, _, _] [(.int (1 : Int32)), (.ref a)])
      refine Go.step (fun tt kk => XS.ifYes X5.here hx rfl (pc0 := 134) (pc' := 141) rfl (hb hby d15_134) rfl ((if0 _ _).trans (feq (by decide)).2) (by decide) (by decide) kk) ?_
      show Go _ _ _ _ _ _ _ T5 (mkF m 141 #[_, _, _, _, _] [(.ref a)])
      refine Go.step (fun tt kk => XS.iconst X5.here hx rfl (hb hby d15_141) kk) ?_
      show Go _ _ _ _ _ _ _ T5 (mkF m 142 #[_, _, _, _, _] [(.int (0 : Int32)), (.ref a)])
      obtain ⟨T6, h6, X6, e6, W6, st6⟩ := putFN X5 hx hZ hown (hw _ (List.mem_of_getElem? (i := 106) rfl)) Via.refl e5 f26_lp0__5 f26_lp0__0 (Or.inl (hw _ (List.mem_of_getElem? (i := 107) rfl))) (hw _ (List.mem_of_getElem? (i := 2) rfl)) (ty := .boolean) (v' := (.int (0 : Int32))) (by decide) rfl rfl (g := (mkF m 142 #[.val (.ref a), .val (.int (0 : Int32)), .val (.ref rr), .unset, .unset] [(.int (0 : Int32)), (.ref a)])) rfl rfl (hb hby d15_142)
      have F6 := Fld.same W6 f26_lp0__5
      have N6 := Fr.snoc X6 N26_lp0_ g_a
      have Z6 : n0 ≤ h6.size := Nat.le_trans Z26_lp0_ (Keep.of_wr W6).1
      have K6 : Keep hI h6 [a, rr, rc] := K26_lp0_.wr W6 (Or.inl (List.mem_of_getElem? (i := 0) rfl))
      refine Go.step (st6) ?_
      show Go _ _ _ _ _ _ _ T6 (mkF m 145 #[_, _, _, _, _] [])
      refine Go.step (fun tt kk => XS.aloadN X6.here hx rfl (hb hby d15_145) rfl rfl kk) ?_
      show Go _ _ _ _ _ _ _ T6 (mkF m 146 #[_, _, _, _, _] [(.ref a)])
      refine Go.step (fun tt kk => XS.iconst X6.here hx rfl (hb hby d15_146) kk) ?_
      show Go _ _ _ _ _ _ _ T6 (mkF m 147 #[_, _, _, _, _] [(.int (0 : Int32)), (.ref a)])
      have f8 := (Fld.other W6 f26_lp0__6 (Or.inr (slot_ne (Or.inl (hw _ (List.mem_of_getElem? (i := 109) rfl))) (Or.inl (hw _ (List.mem_of_getElem? (i := 107) rfl))) (by decide) (t := .int) (t' := .boolean) (by decide) (by decide))))
      have f9 := (Exa.wr W6 f26_lp0__0)
      obtain ⟨T7, h7, X7, e7, W7, st7⟩ := putF X6 hx hZ hown (host := "") (Or.inl (hw _ (List.mem_of_getElem? (i := 108) rfl))) Via.refl e6 f8 f9 (Or.inl (hw _ (List.mem_of_getElem? (i := 109) rfl))) (hw _ (List.mem_of_getElem? (i := 2) rfl)) (ty := .int) (by decide) rfl rfl (g := (mkF m 147 #[.val (.ref a), .val (.int (0 : Int32)), .val (.ref rr), .unset, .unset] [(.int (0 : Int32)), (.ref a)])) rfl rfl (hb hby d15_147)
      have F7 := Fld.same W7 f8
      have N7 := Fr.snoc X7 N6 g_a
      have Z7 : n0 ≤ h7.size := Nat.le_trans Z6 (Keep.of_wr W7).1
      have K7 : Keep hI h7 [a, rr, rc] := K6.wr W7 (Or.inl (List.mem_of_getElem? (i := 0) rfl))
      refine Go.step (st7) ?_
      show Go _ _ _ _ _ _ _ T7 (mkF m 150 #[_, _, _, _, _] [])
      refine Go.step (fun tt kk => XS.iinc X7.here hx rfl (hb hby d15_150) rfl (l' := #[.val (.ref a), .val (.int (1 : Int32)), .val (.ref rr), .unset, .unset]) rfl kk) ?_
      show Go _ _ _ _ _ _ _ T7 (mkF m 153 #[_, _, _, _, _] [])
      show Go _ _ _ _ _ _ _ T7 (mkF m 153 #[.val (.ref a), .val (.int (1 : Int32)), .val (.ref rr), .unset, .unset] [])
      refine Go.step (fun tt kk => XS.goto X7.here hx rfl (pc0 := 153) (pc' := 2) rfl (hb hby d15_153) (by decide) (by decide) kk) ?_
      show Go _ _ _ _ _ _ _ T7 (mkF m 2 #[_, _, _, _, _] [])
      refine Go.step (fun tt kk => XS.iloadN X7.here hx rfl (hb hby d15_2) rfl kk) ?_
      show Go _ _ _ _ _ _ _ T7 (mkF m 3 #[_, _, _, _, _] [(.int (1 : Int32))])
      refine Go.step (fun tt kk => XS.iconst X7.here hx rfl (hb hby d15_3) kk) ?_
      show Go _ _ _ _ _ _ _ T7 (mkF m 4 #[_, _, _, _, _] [(.int (2 : Int32)), (.int (1 : Int32))])
      refine Go.step (fun tt kk => XS.icmpNo X7.here hx rfl (hb hby d15_4) rfl (tlt (by decide)).2.1 kk) ?_
      show Go _ _ _ _ _ _ _ T7 (mkF m 7 #[_, _, _, _, _] [])
      refine Go.step (fun tt kk => XS.aloadN X7.here hx rfl (hb hby d15_7) rfl rfl kk) ?_
      show Go _ _ _ _ _ _ _ T7 (mkF m 8 #[_, _, _, _, _] [(.ref a)])
      have f11 := (Fld.other W7 F6 (Or.inr (slot_ne (Or.inl (hw _ (List.mem_of_getElem? (i := 107) rfl))) (Or.inl (hw _ (List.mem_of_getElem? (i := 109) rfl))) (by decide) (t := .boolean) (t' := .int) (by decide) (by decide))))
      obtain ⟨T10, X10, e10, st10⟩ := getF X7 hx hZ hown (host := "") (Or.inl (hw _ (List.mem_of_getElem? (i := 106) rfl))) Via.refl e7 f11 (g := (mkF m 8 #[.val (.ref a), .val (.int (1 : Int32)), .val (.ref rr), .unset, .unset] [(.ref a)])) rfl rfl (hb hby d15_8)
      refine Go.step (st10) ?_
      show Go _ _ _ _ _ _ _ T10 (mkF m 11 #[_, _, _, _, _] [(.int (0 : Int32))])
      refine Go.step (fun tt kk => XS.ifYes X10.here hx rfl (pc0 := 11) (pc' := 21) rfl (hb hby d15_11) rfl ((if0 _ _).trans (teq (by decide)).1) (by decide) (by decide) kk) ?_
      show Go _ _ _ _ _ _ _ T10 (mkF m 21 #[_, _, _, _, _] [])
      refine Go.step (fun tt kk => XS.aloadN X10.here hx rfl (hb hby d15_21) rfl rfl kk) ?_
      show Go _ _ _ _ _ _ _ T10 (mkF m 22 #[_, _, _, _, _] [(.ref a)])
      have f13 := (Fld.other W7 (Fld.other W6 f26_lp0__4 (Or.inr (slot_ne (Or.inr (hw _ (List.mem_of_getElem? (i := 41) rfl))) (Or.inl (hw _ (List.mem_of_getElem? (i := 107) rfl))) (by decide) (t := (.array .long)) (t' := .boolean) (by decide) (by decide)))) (Or.inr (slot_ne (Or.inr (hw _ (List.mem_of_getElem? (i := 41) rfl))) (Or.inl (hw _ (List.mem_of_getElem? (i := 109) rfl))) (by decide) (t := (.array .long)) (t' := .int) (by decide) (by decide))))
      obtain ⟨T12, X12, e12, st12⟩ := getF X10 hx hZ hown (host := "") (Or.inl (hw _ (List.mem_of_getElem? (i := 40) rfl))) Via.refl e10 f13 (g := (mkF m 22 #[.val (.ref a), .val (.int (1 : Int32)), .val (.ref rr), .unset, .unset] [(.ref a)])) rfl rfl (hb hby d15_22)
      refine Go.step (st12) ?_
      show Go _ _ _ _ _ _ _ T12 (mkF m 25 #[_, _, _, _, _] [(.ref rc)])
      refine Go.step (fun tt kk => XS.astoreN X12.here hx rfl (hb hby d15_25) rfl rfl (l' := #[.val (.ref a), .val (.int (1 : Int32)), .val (.ref rc), .unset, .unset]) rfl kk) ?_
      show Go _ _ _ _ _ _ _ T12 (mkF m 26 #[_, _, _, _, _] [])
      have f14 : Fld Z h7 a "com/example/gridwright/gridwright/engine/LargeDraft" "scan" "I" (.int (Int32.ofNat (K - (K - 0)))) := by
        have q := F7
        rw [show K - (K - 0) = 0 by omega]; exact q
      have lp1_26 : ∀ (u : Nat)  (T26_lp1_ : State) (lc26_lp1_ : List Loc) (hh26_lp1_ : Heap) (X26_lp1_ : Stand p l e ({ frames := 2, cells := 0, slots := 0, locals := 29 } : Room) s m #[(.ref a)] below meth c T26_lp1_ lc26_lp1_ 0 0) (e26_lp1_ : T26_lp1_.heap = hh26_lp1_) (N26_lp1_ : Fr n0 lc26_lp1_) (Z26_lp1_ : n0 ≤ hh26_lp1_.size) (K26_lp1_ : Keep hI hh26_lp1_ [a, rr, rc]) (f26_lp1__0 : Exa Z hh26_lp1_ a "com/example/gridwright/gridwright/engine/LargeDraft") (f26_lp1__1 : Fld Z hh26_lp1_ a "com/example/gridwright/gridwright/engine/Draft" "height" "I" (.int (Int32.ofNat H))) (f26_lp1__2 : Fld Z hh26_lp1_ a "com/example/gridwright/gridwright/engine/Draft" "taken" "J" (.long tk)) (f26_lp1__3 : Fld Z hh26_lp1_ a "com/example/gridwright/gridwright/engine/LargeDraft" "waitingRows" "[J" (.ref rr)) (f26_lp1__4 : Fld Z hh26_lp1_ a "com/example/gridwright/gridwright/engine/LargeDraft" "waitingColumns" "[J" (.ref rc)) (f26_lp1__5 : Fld Z hh26_lp1_ a "com/example/gridwright/gridwright/engine/LargeDraft" "rows" "Z" (.int (0 : Int32))) (f26_lp1__6 : Fld Z hh26_lp1_ a "com/example/gridwright/gridwright/engine/LargeDraft" "scan" "I" (.int (Int32.ofNat (K - u)))) (f26_lp1__7 : AV Z hh26_lp1_ rr .long nr (lv F)) (f26_lp1__8 : AV Z hh26_lp1_ rc .long nc (lv G)) (hu1 : u + 0 ≤ K),
          Go p e s below 0 0 (fun v h L => ∃ tk' : Int64, v = some (.int (Int32.ofNat H + ((64 : Int32) * Int32.ofNat K + ntz (G K)))) ∧ Fr n0 L ∧ Keep h0 h [a, rr, rc] ∧ Exa Z h a "com/example/gridwright/gridwright/engine/LargeDraft" ∧ Fld Z h a "com/example/gridwright/gridwright/engine/Draft" "height" "I" (.int (Int32.ofNat H)) ∧ Fld Z h a "com/example/gridwright/gridwright/engine/Draft" "taken" "J" (.long tk') ∧ Fld Z h a "com/example/gridwright/gridwright/engine/LargeDraft" "waitingRows" "[J" (.ref rr) ∧ Fld Z h a "com/example/gridwright/gridwright/engine/LargeDraft" "waitingColumns" "[J" (.ref rc) ∧ Fld Z h a "com/example/gridwright/gridwright/engine/LargeDraft" "rows" "Z" (.int (0 : Int32)) ∧ Fld Z h a "com/example/gridwright/gridwright/engine/LargeDraft" "scan" "I" (.int (Int32.ofNat K)) ∧ AV Z h rr .long nr (lv F) ∧ AV Z h rc .long nc (lv (loAt G K))) T26_lp1_ (mkF m 26 #[.val (.ref a), .val (.int (1 : Int32)), .val (.ref rc), .unset, .unset] []) := by
        intro u
        induction u with
        | zero =>
          intro  T26_lp1_ lc26_lp1_ hh26_lp1_ X26_lp1_ e26_lp1_ N26_lp1_ Z26_lp1_ K26_lp1_ f26_lp1__0 f26_lp1__1 f26_lp1__2 f26_lp1__3 f26_lp1__4 f26_lp1__5 f26_lp1__6 f26_lp1__7 f26_lp1__8 hu1
          show Go _ _ _ _ _ _ _ T26_lp1_ (mkF m 26 #[.val (.ref a), .val (.int (1 : Int32)), .val (.ref rc), .unset, .unset] [])
          refine Go.step (fun tt kk => XS.aloadN X26_lp1_.here hx rfl (hb hby d15_26) rfl rfl kk) ?_
          show Go _ _ _ _ _ _ _ T26_lp1_ (mkF m 27 #[_, _, _, _, _] [(.ref a)])
          obtain ⟨T15, X15, e15, st15⟩ := getF X26_lp1_ hx hZ hown (host := "") (Or.inl (hw _ (List.mem_of_getElem? (i := 108) rfl))) Via.refl e26_lp1_ f26_lp1__6 (g := (mkF m 27 #[.val (.ref a), .val (.int (1 : Int32)), .val (.ref rc), .unset, .unset] [(.ref a)])) rfl rfl (hb hby d15_27)
          refine Go.step (st15) ?_
          show Go _ _ _ _ _ _ _ T15 (mkF m 30 #[_, _, _, _, _] [(.int (Int32.ofNat K))])
          refine Go.step (fun tt kk => XS.aloadN X15.here hx rfl (hb hby d15_30) rfl rfl kk) ?_
          show Go _ _ _ _ _ _ _ T15 (mkF m 31 #[_, _, _, _, _] [(.ref rc), (.int (Int32.ofNat K))])
          refine Go.step (a_len X15 hx hZ e15 f26_lp1__8 (z := (Int32.ofNat nc)) (Int32.toInt_ofNat_of_lt (by omega)) (hb hby d15_31)) ?_
          show Go _ _ _ _ _ _ _ T15 (mkF m 32 #[_, _, _, _, _] [(.int (Int32.ofNat nc)), (.int (Int32.ofNat K))])
          refine Go.step (fun tt kk => XS.icmpNo X15.here hx rfl (hb hby d15_32) rfl (tlt ((own_lt K nc (by omega) (by omega)).mpr hK)).2.1 kk) ?_
          show Go _ _ _ _ _ _ _ T15 (mkF m 35 #[_, _, _, _, _] [])
          refine Go.step (fun tt kk => XS.aloadN X15.here hx rfl (hb hby d15_35) rfl rfl kk) ?_
          show Go _ _ _ _ _ _ _ T15 (mkF m 36 #[_, _, _, _, _] [(.ref rc)])
          refine Go.step (fun tt kk => XS.aloadN X15.here hx rfl (hb hby d15_36) rfl rfl kk) ?_
          show Go _ _ _ _ _ _ _ T15 (mkF m 37 #[_, _, _, _, _] [(.ref a), (.ref rc)])
          obtain ⟨T16, X16, e16, st16⟩ := getF X15 hx hZ hown (host := "") (Or.inl (hw _ (List.mem_of_getElem? (i := 108) rfl))) Via.refl e15 f26_lp1__6 (g := (mkF m 37 #[.val (.ref a), .val (.int (1 : Int32)), .val (.ref rc), .unset, .unset] [(.ref a), (.ref rc)])) rfl rfl (hb hby d15_37)
          refine Go.step (st16) ?_
          show Go _ _ _ _ _ _ _ T16 (mkF m 40 #[_, _, _, _, _] [(.int (Int32.ofNat K)), (.ref rc)])
          refine Go.step (a_jload X16 hx hZ e16 f26_lp1__8 (k := K) (Int32.toInt_ofNat_of_lt (by omega)) hK (x := (G K)) rfl (hb hby d15_40)) ?_
          show Go _ _ _ _ _ _ _ T16 (mkF m 41 #[_, _, _, _, _] [(.long (G K))])
          refine Go.step (fun tt kk => XS.lconst X16.here hx rfl (hb hby d15_41) kk) ?_
          show Go _ _ _ _ _ _ _ T16 (mkF m 42 #[_, _, _, _, _] [(.long (0 : Int64)), (.long (G K))])
          refine Go.step (fun tt kk => XS.lcmp X16.here hx rfl (hb hby d15_42) rfl kk) ?_
          show Go _ _ _ _ _ _ _ T16 (mkF m 43 #[_, _, _, _, _] [(.int (lcmpW (G K) (0 : Int64)))])
          refine Go.step (fun tt kk => XS.ifNo X16.here hx rfl (hb hby d15_43) rfl ((if0 _ _).trans (feq (fun q => hnz ((lw_eq _ _).mp q))).1) kk) ?_
          show Go _ _ _ _ _ _ _ T16 (mkF m 46 #[_, _, _, _, _] [])
          refine Go.step (fun tt kk => XS.bipush X16.here hx rfl (hb hby d15_46) kk) ?_
          show Go _ _ _ _ _ _ _ T16 (mkF m 48 #[_, _, _, _, _] [(.int (64 : Int32))])
          refine Go.step (fun tt kk => XS.aloadN X16.here hx rfl (hb hby d15_48) rfl rfl kk) ?_
          show Go _ _ _ _ _ _ _ T16 (mkF m 49 #[_, _, _, _, _] [(.ref a), (.int (64 : Int32))])
          obtain ⟨T17, X17, e17, st17⟩ := getF X16 hx hZ hown (host := "") (Or.inl (hw _ (List.mem_of_getElem? (i := 108) rfl))) Via.refl e16 f26_lp1__6 (g := (mkF m 49 #[.val (.ref a), .val (.int (1 : Int32)), .val (.ref rc), .unset, .unset] [(.ref a), (.int (64 : Int32))])) rfl rfl (hb hby d15_49)
          refine Go.step (st17) ?_
          show Go _ _ _ _ _ _ _ T17 (mkF m 52 #[_, _, _, _, _] [(.int (Int32.ofNat K)), (.int (64 : Int32))])
          refine Go.step (fun tt kk => XS.imul X17.here hx rfl (hb hby d15_52) rfl kk) ?_
          show Go _ _ _ _ _ _ _ T17 (mkF m 53 #[_, _, _, _, _] [(.int ((64 : Int32) * (Int32.ofNat K)))])
          refine Go.step (fun tt kk => XS.aloadN X17.here hx rfl (hb hby d15_53) rfl rfl kk) ?_
          show Go _ _ _ _ _ _ _ T17 (mkF m 54 #[_, _, _, _, _] [(.ref rc), (.int ((64 : Int32) * (Int32.ofNat K)))])
          refine Go.step (fun tt kk => XS.aloadN X17.here hx rfl (hb hby d15_54) rfl rfl kk) ?_
          show Go _ _ _ _ _ _ _ T17 (mkF m 55 #[_, _, _, _, _] [(.ref a), (.ref rc), (.int ((64 : Int32) * (Int32.ofNat K)))])
          obtain ⟨T18, X18, e18, st18⟩ := getF X17 hx hZ hown (host := "") (Or.inl (hw _ (List.mem_of_getElem? (i := 108) rfl))) Via.refl e17 f26_lp1__6 (g := (mkF m 55 #[.val (.ref a), .val (.int (1 : Int32)), .val (.ref rc), .unset, .unset] [(.ref a), (.ref rc), (.int ((64 : Int32) * (Int32.ofNat K)))])) rfl rfl (hb hby d15_55)
          refine Go.step (st18) ?_
          show Go _ _ _ _ _ _ _ T18 (mkF m 58 #[_, _, _, _, _] [(.int (Int32.ofNat K)), (.ref rc), (.int ((64 : Int32) * (Int32.ofNat K)))])
          refine Go.step (a_jload X18 hx hZ e18 f26_lp1__8 (k := K) (Int32.toInt_ofNat_of_lt (by omega)) hK (x := (G K)) rfl (hb hby d15_58)) ?_
          show Go _ _ _ _ _ _ _ T18 (mkF m 59 #[_, _, _, _, _] [(.long (G K)), (.int ((64 : Int32) * (Int32.ofNat K)))])
          obtain ⟨v19, T19, L19, X19, q19, st19⟩ := c_static X18 hx hZ hown (y := (⟨"java/lang/Long", "numberOfTrailingZeros", "(J)I"⟩ : MethodName)) (hw _ (List.mem_of_getElem? (i := 120) rfl)) (hw _ (List.mem_of_getElem? (i := 121) rfl)) (hw _ (List.mem_of_getElem? (i := 122) rfl)) (hw _ (List.mem_of_getElem? (i := 123) rfl)) (by decide) (argsL := [(.long (G K))]) (rest := [(.int ((64 : Int32) * (Int32.ofNat K)))]) (rmtl l Z a0 hw [] (G K) hh26_lp1_ n0 Z26_lp1_) e18 pd_7 rfl (by rw [hml]; rfl) (W := 1) (by show 2 * 0 + _ ≤ _; exact Nat.le_of_eq rfl) (by decide) (by decide) (by decide) (by decide) (hb hby d15_59) (Ls := #[.val (.ref a), .val (.int (1 : Int32)), .val (.ref rc), .unset, .unset])
          obtain ⟨rfl, rfl, e19⟩ := q19
          have N19 := Fr.app N26_lp1_ (Fr.nil n0)
          refine Go.step (st19) ?_
          show Go _ _ _ _ _ _ _ T19 (mkF m 62 #[_, _, _, _, _] [(.int (ntz (G K))), (.int ((64 : Int32) * (Int32.ofNat K)))])
          refine Go.step (fun tt kk => XS.iadd X19.here hx rfl (hb hby d15_62) rfl kk) ?_
          show Go _ _ _ _ _ _ _ T19 (mkF m 63 #[_, _, _, _, _] [(.int (((64 : Int32) * (Int32.ofNat K)) + (ntz (G K))))])
          refine Go.step (fun tt kk => XS.istoreN X19.here hx rfl (hb hby d15_63) rfl (l' := #[.val (.ref a), .val (.int (1 : Int32)), .val (.ref rc), .val (.int (((64 : Int32) * (Int32.ofNat K)) + (ntz (G K)))), .unset]) rfl kk) ?_
          show Go _ _ _ _ _ _ _ T19 (mkF m 64 #[_, _, _, _, _] [])
          refine Go.step (fun tt kk => XS.aloadN X19.here hx rfl (hb hby d15_64) rfl rfl kk) ?_
          show Go _ _ _ _ _ _ _ T19 (mkF m 65 #[_, _, _, _, _] [(.ref rc)])
          refine Go.step (fun tt kk => XS.aloadN X19.here hx rfl (hb hby d15_65) rfl rfl kk) ?_
          show Go _ _ _ _ _ _ _ T19 (mkF m 66 #[_, _, _, _, _] [(.ref a), (.ref rc)])
          obtain ⟨T20, X20, e20, st20⟩ := getF X19 hx hZ hown (host := "") (Or.inl (hw _ (List.mem_of_getElem? (i := 108) rfl))) Via.refl e19 f26_lp1__6 (g := (mkF m 66 #[.val (.ref a), .val (.int (1 : Int32)), .val (.ref rc), .val (.int (((64 : Int32) * (Int32.ofNat K)) + (ntz (G K)))), .unset] [(.ref a), (.ref rc)])) rfl rfl (hb hby d15_66)
          refine Go.step (st20) ?_
          show Go _ _ _ _ _ _ _ T20 (mkF m 69 #[_, _, _, _, _] [(.int (Int32.ofNat K)), (.ref rc)])
          refine Go.step (fun tt kk => by jvm_step X20.here [X20.here.top, hx, (hb hby d15_69), Value.category]; exact kk) ?_
          show Go _ _ _ _ _ _ _ T20 (mkF m 70 #[_, _, _, _, _] [(.int (Int32.ofNat K)), (.ref rc), (.int (Int32.ofNat K)), (.ref rc)])
          refine Go.step (a_jload X20 hx hZ e20 f26_lp1__8 (k := K) (Int32.toInt_ofNat_of_lt (by omega)) hK (x := (G K)) rfl (hb hby d15_70)) ?_
          show Go _ _ _ _ _ _ _ T20 (mkF m 71 #[_, _, _, _, _] [(.long (G K)), (.int (Int32.ofNat K)), (.ref rc)])
          refine Go.step (fun tt kk => XS.aloadN X20.here hx rfl (hb hby d15_71) rfl rfl kk) ?_
          show Go _ _ _ _ _ _ _ T20 (mkF m 72 #[_, _, _, _, _] [(.ref rc), (.long (G K)), (.int (Int32.ofNat K)), (.ref rc)])
          refine Go.step (fun tt kk => XS.aloadN X20.here hx rfl (hb hby d15_72) rfl rfl kk) ?_
          show Go _ _ _ _ _ _ _ T20 (mkF m 73 #[_, _, _, _, _] [(.ref a), (.ref rc), (.long (G K)), (.int (Int32.ofNat K)), (.ref rc)])
          obtain ⟨T21, X21, e21, st21⟩ := getF X20 hx hZ hown (host := "") (Or.inl (hw _ (List.mem_of_getElem? (i := 108) rfl))) Via.refl e20 f26_lp1__6 (g := (mkF m 73 #[.val (.ref a), .val (.int (1 : Int32)), .val (.ref rc), .val (.int (((64 : Int32) * (Int32.ofNat K)) + (ntz (G K)))), .unset] [(.ref a), (.ref rc), (.long (G K)), (.int (Int32.ofNat K)), (.ref rc)])) rfl rfl (hb hby d15_73)
          refine Go.step (st21) ?_
          show Go _ _ _ _ _ _ _ T21 (mkF m 76 #[_, _, _, _, _] [(.int (Int32.ofNat K)), (.ref rc), (.long (G K)), (.int (Int32.ofNat K)), (.ref rc)])
          refine Go.step (a_jload X21 hx hZ e21 f26_lp1__8 (k := K) (Int32.toInt_ofNat_of_lt (by omega)) hK (x := (G K)) rfl (hb hby d15_76)) ?_
          show Go _ _ _ _ _ _ _ T21 (mkF m 77 #[_, _, _, _, _] [(.long (G K)), (.long (G K)), (.int (Int32.ofNat K)), (.ref rc)])
          refine Go.step (fun tt kk => XS.lconst X21.here hx rfl (hb hby d15_77) kk) ?_
          show Go _ _ _ _ _ _ _ T21 (mkF m 78 #[_, _, _, _, _] [(.long (1 : Int64)), (.long (G K)), (.long (G K)), (.int (Int32.ofNat K)), (.ref rc)])
          refine Go.step (fun tt kk => XS.lsub X21.here hx rfl (hb hby d15_78) rfl kk) ?_
          show Go _ _ _ _ _ _ _ T21 (mkF m 79 #[_, _, _, _, _] [(.long ((G K) - (1 : Int64))), (.long (G K)), (.int (Int32.ofNat K)), (.ref rc)])
          refine Go.step (fun tt kk => XS.land X21.here hx rfl (hb hby d15_79) rfl kk) ?_
          show Go _ _ _ _ _ _ _ T21 (mkF m 80 #[_, _, _, _, _] [(.long ((G K) &&& ((G K) - (1 : Int64)))), (.int (Int32.ofNat K)), (.ref rc)])
          obtain ⟨cl22, Ar22, hin22, -⟩ := f26_lp1__8.at (j := (Int32.ofNat K)) (k := K) (Int32.toInt_ofNat_of_lt (by omega)) hK
          obtain ⟨T22, h22, X22, e22, W22, st22⟩ := stJ X21 hx hZ e21 Ar22 (j := (Int32.ofNat K)) hin22 (g := (mkF m 80 #[.val (.ref a), .val (.int (1 : Int32)), .val (.ref rc), .val (.int (((64 : Int32) * (Int32.ofNat K)) + (ntz (G K)))), .unset] [(.long ((G K) &&& ((G K) - (1 : Int64)))), (.int (Int32.ofNat K)), (.ref rc)])) rfl rfl (hb hby d15_80)
          have V22 : AV Z h22 rc .long nc (upd (lv G) K (.long ((G K) &&& ((G K) - (1 : Int64))))) := AV.set f26_lp1__8 (k := K) (Int32.toInt_ofNat_of_lt (by omega)) hK W22
          have N22 := Fr.snoc X22 N19 g_rc
          have Z22 : n0 ≤ h22.size := Nat.le_trans Z26_lp1_ (Keep.of_wr W22).1
          have K22 : Keep hI h22 [a, rr, rc] := K26_lp1_.wr W22 (Or.inl (List.mem_of_getElem? (i := 2) rfl))
          refine Go.step (st22) ?_
          show Go _ _ _ _ _ _ _ T22 (mkF m 81 #[_, _, _, _, _] [])
          refine Go.step (fun tt kk => XS.aloadN X22.here hx rfl (hb hby d15_81) rfl rfl kk) ?_
          show Go _ _ _ _ _ _ _ T22 (mkF m 82 #[_, _, _, _, _] [(.ref a)])
          have f24 := (Fld.other W22 f26_lp1__5 (Or.inl ne_a_rc))
          obtain ⟨T23, X23, e23, st23⟩ := getF X22 hx hZ hown (host := "") (Or.inl (hw _ (List.mem_of_getElem? (i := 106) rfl))) Via.refl e22 f24 (g := (mkF m 82 #[.val (.ref a), .val (.int (1 : Int32)), .val (.ref rc), .val (.int (((64 : Int32) * (Int32.ofNat K)) + (ntz (G K)))), .unset] [(.ref a)])) rfl rfl (hb hby d15_82)
          refine Go.step (st23) ?_
          show Go _ _ _ _ _ _ _ T23 (mkF m 85 #[_, _, _, _, _] [(.int (0 : Int32))])
          refine Go.step (fun tt kk => XS.ifYes X23.here hx rfl (pc0 := 85) (pc' := 92) rfl (hb hby d15_85) rfl ((if0 _ _).trans (teq (by decide)).1) (by decide) (by decide) kk) ?_
          show Go _ _ _ _ _ _ _ T23 (mkF m 92 #[_, _, _, _, _] [])
          refine Go.step (fun tt kk => XS.aloadN X23.here hx rfl (hb hby d15_92) rfl rfl kk) ?_
          show Go _ _ _ _ _ _ _ T23 (mkF m 93 #[_, _, _, _, _] [(.ref a)])
          have f26 := (Fld.other W22 f26_lp1__1 (Or.inl ne_a_rc))
          obtain ⟨T25, X25, e25, st25⟩ := getF X23 hx hZ hown (host := "") (Or.inl (hw _ (List.mem_of_getElem? (i := 100) rfl))) (Via.of (hw _ (List.mem_of_getElem? (i := 101) rfl))) e23 f26 (g := (mkF m 93 #[.val (.ref a), .val (.int (1 : Int32)), .val (.ref rc), .val (.int (((64 : Int32) * (Int32.ofNat K)) + (ntz (G K)))), .unset] [(.ref a)])) rfl rfl (hb hby d15_93)
          refine Go.step (st25) ?_
          show Go _ _ _ _ _ _ _ T25 (mkF m 96 #[_, _, _, _, _] [(.int (Int32.ofNat H))])
          refine Go.step (fun tt kk => XS.iloadN X25.here hx rfl (hb hby d15_96) rfl kk) ?_
          show Go _ _ _ _ _ _ _ T25 (mkF m 97 #[_, _, _, _, _] [(.int (((64 : Int32) * (Int32.ofNat K)) + (ntz (G K)))), (.int (Int32.ofNat H))])
          refine Go.step (fun tt kk => XS.iadd X25.here hx rfl (hb hby d15_97) rfl kk) ?_
          show Go _ _ _ _ _ _ _ T25 (mkF m 98 #[_, _, _, _, _] [(.int ((Int32.ofNat H) + (((64 : Int32) * (Int32.ofNat K)) + (ntz (G K)))))])
          refine Go.step (fun tt kk => XS.istore X25.here hx rfl (hb hby d15_98) rfl (l' := #[.val (.ref a), .val (.int (1 : Int32)), .val (.ref rc), .val (.int (((64 : Int32) * (Int32.ofNat K)) + (ntz (G K)))), .val (.int ((Int32.ofNat H) + (((64 : Int32) * (Int32.ofNat K)) + (ntz (G K)))))]) rfl kk) ?_
          show Go _ _ _ _ _ _ _ T25 (mkF m 100 #[_, _, _, _, _] [])
          refine Go.step (fun tt kk => XS.aloadN X25.here hx rfl (hb hby d15_100) rfl rfl kk) ?_
          show Go _ _ _ _ _ _ _ T25 (mkF m 101 #[_, _, _, _, _] [(.ref a)])
          refine Go.step (fun tt kk => XS.dup X25.here hx rfl (hb hby d15_101) rfl rfl kk) ?_
          show Go _ _ _ _ _ _ _ T25 (mkF m 102 #[_, _, _, _, _] [(.ref a), (.ref a)])
          have f28 := (Fld.other W22 f26_lp1__2 (Or.inl ne_a_rc))
          obtain ⟨T27, X27, e27, st27⟩ := getF X25 hx hZ hown (host := "") (Or.inl (hw _ (List.mem_of_getElem? (i := 129) rfl))) (Via.of (hw _ (List.mem_of_getElem? (i := 130) rfl))) e25 f28 (g := (mkF m 102 #[.val (.ref a), .val (.int (1 : Int32)), .val (.ref rc), .val (.int (((64 : Int32) * (Int32.ofNat K)) + (ntz (G K)))), .val (.int ((Int32.ofNat H) + (((64 : Int32) * (Int32.ofNat K)) + (ntz (G K)))))] [(.ref a), (.ref a)])) rfl rfl (hb hby d15_102)
          refine Go.step (st27) ?_
          show Go _ _ _ _ _ _ _ T27 (mkF m 105 #[_, _, _, _, _] [(.long tk), (.ref a)])
          refine Go.step (fun tt kk => XS.lconst X27.here hx rfl (hb hby d15_105) kk) ?_
          show Go _ _ _ _ _ _ _ T27 (mkF m 106 #[_, _, _, _, _] [(.long (1 : Int64)), (.long tk), (.ref a)])
          refine Go.step (fun tt kk => XS.iload X27.here hx rfl (hb hby d15_106) rfl kk) ?_
          show Go _ _ _ _ _ _ _ T27 (mkF m 108 #[_, _, _, _, _] [(.int ((Int32.ofNat H) + (((64 : Int32) * (Int32.ofNat K)) + (ntz (G K))))), (.long (1 : Int64)), (.long tk), (.ref a)])
          refine Go.step (fun tt kk => XS.lshl X27.here hx rfl (hb hby d15_108) rfl kk) ?_
          show Go _ _ _ _ _ _ _ T27 (mkF m 109 #[_, _, _, _, _] [(.long ((1 : Int64) <<< (((Int32.ofNat H) + (((64 : Int32) * (Int32.ofNat K)) + (ntz (G K)))) &&& 0x3f).toInt64)), (.long tk), (.ref a)])
          refine Go.step (fun tt kk => XS.lor X27.here hx rfl (hb hby d15_109) rfl kk) ?_
          show Go _ _ _ _ _ _ _ T27 (mkF m 110 #[_, _, _, _, _] [(.long (tk ||| ((1 : Int64) <<< (((Int32.ofNat H) + (((64 : Int32) * (Int32.ofNat K)) + (ntz (G K)))) &&& 0x3f).toInt64))), (.ref a)])
          have f30 := (Exa.wr W22 f26_lp1__0)
          obtain ⟨T29, h29, X29, e29, W29, st29⟩ := putF X27 hx hZ hown (host := "") (Or.inl (hw _ (List.mem_of_getElem? (i := 129) rfl))) (Via.of (hw _ (List.mem_of_getElem? (i := 130) rfl))) e27 f28 f30 (Or.inl (hw _ (List.mem_of_getElem? (i := 86) rfl))) (hw _ (List.mem_of_getElem? (i := 2) rfl)) (ty := .long) (by decide) rfl rfl (g := (mkF m 110 #[.val (.ref a), .val (.int (1 : Int32)), .val (.ref rc), .val (.int (((64 : Int32) * (Int32.ofNat K)) + (ntz (G K)))), .val (.int ((Int32.ofNat H) + (((64 : Int32) * (Int32.ofNat K)) + (ntz (G K)))))] [(.long (tk ||| ((1 : Int64) <<< (((Int32.ofNat H) + (((64 : Int32) * (Int32.ofNat K)) + (ntz (G K)))) &&& 0x3f).toInt64))), (.ref a)])) rfl rfl (hb hby d15_110)
          have F29 := Fld.same W29 f28
          have N29 := Fr.snoc X29 N22 g_a
          have Z29 : n0 ≤ h29.size := Nat.le_trans Z22 (Keep.of_wr W29).1
          have K29 : Keep hI h29 [a, rr, rc] := K22.wr W29 (Or.inl (List.mem_of_getElem? (i := 0) rfl))
          refine Go.step (st29) ?_
          show Go _ _ _ _ _ _ _ T29 (mkF m 113 #[_, _, _, _, _] [])
          refine Go.step (fun tt kk => XS.iload X29.here hx rfl (hb hby d15_113) rfl kk) ?_
          show Go _ _ _ _ _ _ _ T29 (mkF m 115 #[_, _, _, _, _] [(.int ((Int32.ofNat H) + (((64 : Int32) * (Int32.ofNat K)) + (ntz (G K)))))])
          have f31 := (Exa.wr W29 f30)
          have f32 := (Fld.other W29 f26 (Or.inr (slot_ne (Or.inr (hw _ (List.mem_of_getElem? (i := 18) rfl))) (Or.inl (hw _ (List.mem_of_getElem? (i := 86) rfl))) (by decide) (t := .int) (t' := .long) (by decide) (by decide))))
          have f33 := (Fld.other W29 (Fld.other W22 f26_lp1__3 (Or.inl ne_a_rc)) (Or.inr (slot_ne (Or.inr (hw _ (List.mem_of_getElem? (i := 39) rfl))) (Or.inl (hw _ (List.mem_of_getElem? (i := 86) rfl))) (by decide) (t := (.array .long)) (t' := .long) (by decide) (by decide))))
          have f34 := (Fld.other W29 (Fld.other W22 f26_lp1__4 (Or.inl ne_a_rc)) (Or.inr (slot_ne (Or.inr (hw _ (List.mem_of_getElem? (i := 41) rfl))) (Or.inl (hw _ (List.mem_of_getElem? (i := 86) rfl))) (by decide) (t := (.array .long)) (t' := .long) (by decide) (by decide))))
          have f35 := (Fld.other W29 f24 (Or.inr (slot_ne (Or.inl (hw _ (List.mem_of_getElem? (i := 107) rfl))) (Or.inl (hw _ (List.mem_of_getElem? (i := 86) rfl))) (by decide) (t := .boolean) (t' := .long) (by decide) (by decide))))
          have f36 := (Fld.other W29 (Fld.other W22 f26_lp1__6 (Or.inl ne_a_rc)) (Or.inr (slot_ne (Or.inl (hw _ (List.mem_of_getElem? (i := 109) rfl))) (Or.inl (hw _ (List.mem_of_getElem? (i := 86) rfl))) (by decide) (t := .int) (t' := .long) (by decide) (by decide))))
          have f37 := ((f26_lp1__7.other W22 ne_rr_rc).other W29 (Ne.symm ne_a_rr))
          have f38 := (V22.other W29 (Ne.symm ne_a_rc))
          refine go_retI X29 hx hret hlk (hb hby d15_115) ?_ (by decide) (by decide)
          try rw [e29]
          exact ⟨_, rfl, N29, eI ▸ K29, f31, f32, F29, f33, f34, f35, f36, f37, (AV.congr (g := lv (loAt G K)) f38 fun i hi => by
              by_cases q : i = K
              · subst q; exact upd_eq.trans (congrArg Value.long (if_pos rfl).symm)
              · exact (upd_ne q).trans (congrArg Value.long (if_neg q).symm))⟩
        | succ u ih =>
          intro  T26_lp1_ lc26_lp1_ hh26_lp1_ X26_lp1_ e26_lp1_ N26_lp1_ Z26_lp1_ K26_lp1_ f26_lp1__0 f26_lp1__1 f26_lp1__2 f26_lp1__3 f26_lp1__4 f26_lp1__5 f26_lp1__6 f26_lp1__7 f26_lp1__8 hu1
          show Go _ _ _ _ _ _ _ T26_lp1_ (mkF m 26 #[.val (.ref a), .val (.int (1 : Int32)), .val (.ref rc), .unset, .unset] [])
          refine Go.step (fun tt kk => XS.aloadN X26_lp1_.here hx rfl (hb hby d15_26) rfl rfl kk) ?_
          show Go _ _ _ _ _ _ _ T26_lp1_ (mkF m 27 #[_, _, _, _, _] [(.ref a)])
          obtain ⟨T39, X39, e39, st39⟩ := getF X26_lp1_ hx hZ hown (host := "") (Or.inl (hw _ (List.mem_of_getElem? (i := 108) rfl))) Via.refl e26_lp1_ f26_lp1__6 (g := (mkF m 27 #[.val (.ref a), .val (.int (1 : Int32)), .val (.ref rc), .unset, .unset] [(.ref a)])) rfl rfl (hb hby d15_27)
          refine Go.step (st39) ?_
          show Go _ _ _ _ _ _ _ T39 (mkF m 30 #[_, _, _, _, _] [(.int (Int32.ofNat (K - (u + 1))))])
          refine Go.step (fun tt kk => XS.aloadN X39.here hx rfl (hb hby d15_30) rfl rfl kk) ?_
          show Go _ _ _ _ _ _ _ T39 (mkF m 31 #[_, _, _, _, _] [(.ref rc), (.int (Int32.ofNat (K - (u + 1))))])
          refine Go.step (a_len X39 hx hZ e39 f26_lp1__8 (z := (Int32.ofNat nc)) (Int32.toInt_ofNat_of_lt (by omega)) (hb hby d15_31)) ?_
          show Go _ _ _ _ _ _ _ T39 (mkF m 32 #[_, _, _, _, _] [(.int (Int32.ofNat nc)), (.int (Int32.ofNat (K - (u + 1))))])
          refine Go.step (fun tt kk => XS.icmpNo X39.here hx rfl (hb hby d15_32) rfl (tlt ((own_lt (K - (u + 1)) nc (by omega) (by omega)).mpr (by omega))).2.1 kk) ?_
          show Go _ _ _ _ _ _ _ T39 (mkF m 35 #[_, _, _, _, _] [])
          refine Go.step (fun tt kk => XS.aloadN X39.here hx rfl (hb hby d15_35) rfl rfl kk) ?_
          show Go _ _ _ _ _ _ _ T39 (mkF m 36 #[_, _, _, _, _] [(.ref rc)])
          refine Go.step (fun tt kk => XS.aloadN X39.here hx rfl (hb hby d15_36) rfl rfl kk) ?_
          show Go _ _ _ _ _ _ _ T39 (mkF m 37 #[_, _, _, _, _] [(.ref a), (.ref rc)])
          obtain ⟨T40, X40, e40, st40⟩ := getF X39 hx hZ hown (host := "") (Or.inl (hw _ (List.mem_of_getElem? (i := 108) rfl))) Via.refl e39 f26_lp1__6 (g := (mkF m 37 #[.val (.ref a), .val (.int (1 : Int32)), .val (.ref rc), .unset, .unset] [(.ref a), (.ref rc)])) rfl rfl (hb hby d15_37)
          refine Go.step (st40) ?_
          show Go _ _ _ _ _ _ _ T40 (mkF m 40 #[_, _, _, _, _] [(.int (Int32.ofNat (K - (u + 1)))), (.ref rc)])
          refine Go.step (a_jload X40 hx hZ e40 f26_lp1__8 (k := (K - (u + 1))) (Int32.toInt_ofNat_of_lt (by omega)) (by omega) (x := (G (K - (u + 1)))) rfl (hb hby d15_40)) ?_
          show Go _ _ _ _ _ _ _ T40 (mkF m 41 #[_, _, _, _, _] [(.long (G (K - (u + 1))))])
          refine Go.step (fun tt kk => XS.lconst X40.here hx rfl (hb hby d15_41) kk) ?_
          show Go _ _ _ _ _ _ _ T40 (mkF m 42 #[_, _, _, _, _] [(.long (0 : Int64)), (.long (G (K - (u + 1))))])
          refine Go.step (fun tt kk => XS.lcmp X40.here hx rfl (hb hby d15_42) rfl kk) ?_
          show Go _ _ _ _ _ _ _ T40 (mkF m 43 #[_, _, _, _, _] [(.int (lcmpW (G (K - (u + 1))) (0 : Int64)))])
          refine Go.step (fun tt kk => XS.ifYes X40.here hx rfl (pc0 := 43) (pc' := 116) rfl (hb hby d15_43) rfl ((if0 _ _).trans (teq ((lw_eq _ _).mpr (hz1 (K - (u + 1)) (by omega) (by omega)))).1) (by decide) (by decide) kk) ?_
          show Go _ _ _ _ _ _ _ T40 (mkF m 116 #[_, _, _, _, _] [])
          refine Go.step (fun tt kk => XS.aloadN X40.here hx rfl (hb hby d15_116) rfl rfl kk) ?_
          show Go _ _ _ _ _ _ _ T40 (mkF m 117 #[_, _, _, _, _] [(.ref a)])
          refine Go.step (fun tt kk => XS.dup X40.here hx rfl (hb hby d15_117) rfl rfl kk) ?_
          show Go _ _ _ _ _ _ _ T40 (mkF m 118 #[_, _, _, _, _] [(.ref a), (.ref a)])
          obtain ⟨T41, X41, e41, st41⟩ := getF X40 hx hZ hown (host := "") (Or.inl (hw _ (List.mem_of_getElem? (i := 108) rfl))) Via.refl e40 f26_lp1__6 (g := (mkF m 118 #[.val (.ref a), .val (.int (1 : Int32)), .val (.ref rc), .unset, .unset] [(.ref a), (.ref a)])) rfl rfl (hb hby d15_118)
          refine Go.step (st41) ?_
          show Go _ _ _ _ _ _ _ T41 (mkF m 121 #[_, _, _, _, _] [(.int (Int32.ofNat (K - (u + 1)))), (.ref a)])
          refine Go.step (fun tt kk => XS.iconst X41.here hx rfl (hb hby d15_121) kk) ?_
          show Go _ _ _ _ _ _ _ T41 (mkF m 122 #[_, _, _, _, _] [(.int (1 : Int32)), (.int (Int32.ofNat (K - (u + 1)))), (.ref a)])
          refine Go.step (fun tt kk => XS.iadd X41.here hx rfl (hb hby d15_122) rfl kk) ?_
          show Go _ _ _ _ _ _ _ T41 (mkF m 123 #[_, _, _, _, _] [(.int ((Int32.ofNat (K - (u + 1))) + (1 : Int32))), (.ref a)])
          rw [own_up K u (by omega)]
          show Go _ _ _ _ _ _ _ T41 (mkF m 123 #[.val (.ref a), .val (.int (1 : Int32)), .val (.ref rc), .unset, .unset] [(.int (Int32.ofNat (K - u))), (.ref a)])
          obtain ⟨T42, h42, X42, e42, W42, st42⟩ := putF X41 hx hZ hown (host := "") (Or.inl (hw _ (List.mem_of_getElem? (i := 108) rfl))) Via.refl e41 f26_lp1__6 f26_lp1__0 (Or.inl (hw _ (List.mem_of_getElem? (i := 109) rfl))) (hw _ (List.mem_of_getElem? (i := 2) rfl)) (ty := .int) (by decide) rfl rfl (g := (mkF m 123 #[.val (.ref a), .val (.int (1 : Int32)), .val (.ref rc), .unset, .unset] [(.int (Int32.ofNat (K - u))), (.ref a)])) rfl rfl (hb hby d15_123)
          have F42 := Fld.same W42 f26_lp1__6
          have N42 := Fr.snoc X42 N26_lp1_ g_a
          have Z42 : n0 ≤ h42.size := Nat.le_trans Z26_lp1_ (Keep.of_wr W42).1
          have K42 : Keep hI h42 [a, rr, rc] := K26_lp1_.wr W42 (Or.inl (List.mem_of_getElem? (i := 0) rfl))
          refine Go.step (st42) ?_
          show Go _ _ _ _ _ _ _ T42 (mkF m 126 #[_, _, _, _, _] [])
          refine Go.step (fun tt kk => XS.goto X42.here hx rfl (pc0 := 126) (pc' := 26) rfl (hb hby d15_126) (by decide) (by decide) kk) ?_
          show Go _ _ _ _ _ _ _ T42 (mkF m 26 #[_, _, _, _, _] [])
          have f43 := (Exa.wr W42 f26_lp1__0)
          have f44 := (Fld.other W42 f26_lp1__1 (Or.inr (slot_ne (Or.inr (hw _ (List.mem_of_getElem? (i := 18) rfl))) (Or.inl (hw _ (List.mem_of_getElem? (i := 109) rfl))) (by decide) (t := .int) (t' := .int) (by decide) (by decide))))
          have f45 := (Fld.other W42 f26_lp1__2 (Or.inr (slot_ne (Or.inl (hw _ (List.mem_of_getElem? (i := 86) rfl))) (Or.inl (hw _ (List.mem_of_getElem? (i := 109) rfl))) (by decide) (t := .long) (t' := .int) (by decide) (by decide))))
          have f46 := (Fld.other W42 f26_lp1__3 (Or.inr (slot_ne (Or.inr (hw _ (List.mem_of_getElem? (i := 39) rfl))) (Or.inl (hw _ (List.mem_of_getElem? (i := 109) rfl))) (by decide) (t := (.array .long)) (t' := .int) (by decide) (by decide))))
          have f47 := (Fld.other W42 f26_lp1__4 (Or.inr (slot_ne (Or.inr (hw _ (List.mem_of_getElem? (i := 41) rfl))) (Or.inl (hw _ (List.mem_of_getElem? (i := 109) rfl))) (by decide) (t := (.array .long)) (t' := .int) (by decide) (by decide))))
          have f48 := (Fld.other W42 f26_lp1__5 (Or.inr (slot_ne (Or.inl (hw _ (List.mem_of_getElem? (i := 107) rfl))) (Or.inl (hw _ (List.mem_of_getElem? (i := 109) rfl))) (by decide) (t := .boolean) (t' := .int) (by decide) (by decide))))
          have f49 := (f26_lp1__7.other W42 (Ne.symm ne_a_rr))
          have f50 := (f26_lp1__8.other W42 (Ne.symm ne_a_rc))
          exact ih  _ _ _ (X42.more (by decide) (by decide)) e42 N42 Z42 K42 f43 f44 f45 f46 f47 f48 F42 f49 f50 (by omega)
      have f51 := (Exa.wr W7 f9)
      have f52 := (Fld.other W7 (Fld.other W6 f26_lp0__1 (Or.inr (slot_ne (Or.inr (hw _ (List.mem_of_getElem? (i := 18) rfl))) (Or.inl (hw _ (List.mem_of_getElem? (i := 107) rfl))) (by decide) (t := .int) (t' := .boolean) (by decide) (by decide)))) (Or.inr (slot_ne (Or.inr (hw _ (List.mem_of_getElem? (i := 18) rfl))) (Or.inl (hw _ (List.mem_of_getElem? (i := 109) rfl))) (by decide) (t := .int) (t' := .int) (by decide) (by decide))))
      have f53 := (Fld.other W7 (Fld.other W6 f26_lp0__2 (Or.inr (slot_ne (Or.inl (hw _ (List.mem_of_getElem? (i := 86) rfl))) (Or.inl (hw _ (List.mem_of_getElem? (i := 107) rfl))) (by decide) (t := .long) (t' := .boolean) (by decide) (by decide)))) (Or.inr (slot_ne (Or.inl (hw _ (List.mem_of_getElem? (i := 86) rfl))) (Or.inl (hw _ (List.mem_of_getElem? (i := 109) rfl))) (by decide) (t := .long) (t' := .int) (by decide) (by decide))))
      have f54 := (Fld.other W7 (Fld.other W6 f26_lp0__3 (Or.inr (slot_ne (Or.inr (hw _ (List.mem_of_getElem? (i := 39) rfl))) (Or.inl (hw _ (List.mem_of_getElem? (i := 107) rfl))) (by decide) (t := (.array .long)) (t' := .boolean) (by decide) (by decide)))) (Or.inr (slot_ne (Or.inr (hw _ (List.mem_of_getElem? (i := 39) rfl))) (Or.inl (hw _ (List.mem_of_getElem? (i := 109) rfl))) (by decide) (t := (.array .long)) (t' := .int) (by decide) (by decide))))
      have f55 := ((f26_lp0__7.other W6 (Ne.symm ne_a_rr)).other W7 (Ne.symm ne_a_rr))
      have f56 := ((f26_lp0__8.other W6 (Ne.symm ne_a_rc)).other W7 (Ne.symm ne_a_rc))
      exact lp1_26 (K - 0)  _ _ _ (X12.more (by decide) (by decide)) e12 N7 Z7 K7 f51 f52 f53 f54 f13 f11 f14 f55 f56 (by omega)
    | succ u ih =>
      intro  T26_lp0_ lc26_lp0_ hh26_lp0_ X26_lp0_ e26_lp0_ N26_lp0_ Z26_lp0_ K26_lp0_ f26_lp0__0 f26_lp0__1 f26_lp0__2 f26_lp0__3 f26_lp0__4 f26_lp0__5 f26_lp0__6 f26_lp0__7 f26_lp0__8 hu0
      show Go _ _ _ _ _ _ _ T26_lp0_ (mkF m 26 #[.val (.ref a), .val (.int (0 : Int32)), .val (.ref rr), .unset, .unset] [])
      refine Go.step (fun tt kk => XS.aloadN X26_lp0_.here hx rfl (hb hby d15_26) rfl rfl kk) ?_
      show Go _ _ _ _ _ _ _ T26_lp0_ (mkF m 27 #[_, _, _, _, _] [(.ref a)])
      obtain ⟨T57, X57, e57, st57⟩ := getF X26_lp0_ hx hZ hown (host := "") (Or.inl (hw _ (List.mem_of_getElem? (i := 108) rfl))) Via.refl e26_lp0_ f26_lp0__6 (g := (mkF m 27 #[.val (.ref a), .val (.int (0 : Int32)), .val (.ref rr), .unset, .unset] [(.ref a)])) rfl rfl (hb hby d15_27)
      refine Go.step (st57) ?_
      show Go _ _ _ _ _ _ _ T57 (mkF m 30 #[_, _, _, _, _] [(.int (Int32.ofNat (nr - (u + 1))))])
      refine Go.step (fun tt kk => XS.aloadN X57.here hx rfl (hb hby d15_30) rfl rfl kk) ?_
      show Go _ _ _ _ _ _ _ T57 (mkF m 31 #[_, _, _, _, _] [(.ref rr), (.int (Int32.ofNat (nr - (u + 1))))])
      refine Go.step (a_len X57 hx hZ e57 f26_lp0__7 (z := (Int32.ofNat nr)) (Int32.toInt_ofNat_of_lt (by omega)) (hb hby d15_31)) ?_
      show Go _ _ _ _ _ _ _ T57 (mkF m 32 #[_, _, _, _, _] [(.int (Int32.ofNat nr)), (.int (Int32.ofNat (nr - (u + 1))))])
      refine Go.step (fun tt kk => XS.icmpNo X57.here hx rfl (hb hby d15_32) rfl (tlt ((own_lt (nr - (u + 1)) nr (by omega) (by omega)).mpr (by omega))).2.1 kk) ?_
      show Go _ _ _ _ _ _ _ T57 (mkF m 35 #[_, _, _, _, _] [])
      refine Go.step (fun tt kk => XS.aloadN X57.here hx rfl (hb hby d15_35) rfl rfl kk) ?_
      show Go _ _ _ _ _ _ _ T57 (mkF m 36 #[_, _, _, _, _] [(.ref rr)])
      refine Go.step (fun tt kk => XS.aloadN X57.here hx rfl (hb hby d15_36) rfl rfl kk) ?_
      show Go _ _ _ _ _ _ _ T57 (mkF m 37 #[_, _, _, _, _] [(.ref a), (.ref rr)])
      obtain ⟨T58, X58, e58, st58⟩ := getF X57 hx hZ hown (host := "") (Or.inl (hw _ (List.mem_of_getElem? (i := 108) rfl))) Via.refl e57 f26_lp0__6 (g := (mkF m 37 #[.val (.ref a), .val (.int (0 : Int32)), .val (.ref rr), .unset, .unset] [(.ref a), (.ref rr)])) rfl rfl (hb hby d15_37)
      refine Go.step (st58) ?_
      show Go _ _ _ _ _ _ _ T58 (mkF m 40 #[_, _, _, _, _] [(.int (Int32.ofNat (nr - (u + 1)))), (.ref rr)])
      refine Go.step (a_jload X58 hx hZ e58 f26_lp0__7 (k := (nr - (u + 1))) (Int32.toInt_ofNat_of_lt (by omega)) (by omega) (x := (F (nr - (u + 1)))) rfl (hb hby d15_40)) ?_
      show Go _ _ _ _ _ _ _ T58 (mkF m 41 #[_, _, _, _, _] [(.long (F (nr - (u + 1))))])
      refine Go.step (fun tt kk => XS.lconst X58.here hx rfl (hb hby d15_41) kk) ?_
      show Go _ _ _ _ _ _ _ T58 (mkF m 42 #[_, _, _, _, _] [(.long (0 : Int64)), (.long (F (nr - (u + 1))))])
      refine Go.step (fun tt kk => XS.lcmp X58.here hx rfl (hb hby d15_42) rfl kk) ?_
      show Go _ _ _ _ _ _ _ T58 (mkF m 43 #[_, _, _, _, _] [(.int (lcmpW (F (nr - (u + 1))) (0 : Int64)))])
      refine Go.step (fun tt kk => XS.ifYes X58.here hx rfl (pc0 := 43) (pc' := 116) rfl (hb hby d15_43) rfl ((if0 _ _).trans (teq ((lw_eq _ _).mpr (hz0 (nr - (u + 1)) (by omega) (by omega)))).1) (by decide) (by decide) kk) ?_
      show Go _ _ _ _ _ _ _ T58 (mkF m 116 #[_, _, _, _, _] [])
      refine Go.step (fun tt kk => XS.aloadN X58.here hx rfl (hb hby d15_116) rfl rfl kk) ?_
      show Go _ _ _ _ _ _ _ T58 (mkF m 117 #[_, _, _, _, _] [(.ref a)])
      refine Go.step (fun tt kk => XS.dup X58.here hx rfl (hb hby d15_117) rfl rfl kk) ?_
      show Go _ _ _ _ _ _ _ T58 (mkF m 118 #[_, _, _, _, _] [(.ref a), (.ref a)])
      obtain ⟨T59, X59, e59, st59⟩ := getF X58 hx hZ hown (host := "") (Or.inl (hw _ (List.mem_of_getElem? (i := 108) rfl))) Via.refl e58 f26_lp0__6 (g := (mkF m 118 #[.val (.ref a), .val (.int (0 : Int32)), .val (.ref rr), .unset, .unset] [(.ref a), (.ref a)])) rfl rfl (hb hby d15_118)
      refine Go.step (st59) ?_
      show Go _ _ _ _ _ _ _ T59 (mkF m 121 #[_, _, _, _, _] [(.int (Int32.ofNat (nr - (u + 1)))), (.ref a)])
      refine Go.step (fun tt kk => XS.iconst X59.here hx rfl (hb hby d15_121) kk) ?_
      show Go _ _ _ _ _ _ _ T59 (mkF m 122 #[_, _, _, _, _] [(.int (1 : Int32)), (.int (Int32.ofNat (nr - (u + 1)))), (.ref a)])
      refine Go.step (fun tt kk => XS.iadd X59.here hx rfl (hb hby d15_122) rfl kk) ?_
      show Go _ _ _ _ _ _ _ T59 (mkF m 123 #[_, _, _, _, _] [(.int ((Int32.ofNat (nr - (u + 1))) + (1 : Int32))), (.ref a)])
      rw [own_up nr u (by omega)]
      show Go _ _ _ _ _ _ _ T59 (mkF m 123 #[.val (.ref a), .val (.int (0 : Int32)), .val (.ref rr), .unset, .unset] [(.int (Int32.ofNat (nr - u))), (.ref a)])
      obtain ⟨T60, h60, X60, e60, W60, st60⟩ := putF X59 hx hZ hown (host := "") (Or.inl (hw _ (List.mem_of_getElem? (i := 108) rfl))) Via.refl e59 f26_lp0__6 f26_lp0__0 (Or.inl (hw _ (List.mem_of_getElem? (i := 109) rfl))) (hw _ (List.mem_of_getElem? (i := 2) rfl)) (ty := .int) (by decide) rfl rfl (g := (mkF m 123 #[.val (.ref a), .val (.int (0 : Int32)), .val (.ref rr), .unset, .unset] [(.int (Int32.ofNat (nr - u))), (.ref a)])) rfl rfl (hb hby d15_123)
      have F60 := Fld.same W60 f26_lp0__6
      have N60 := Fr.snoc X60 N26_lp0_ g_a
      have Z60 : n0 ≤ h60.size := Nat.le_trans Z26_lp0_ (Keep.of_wr W60).1
      have K60 : Keep hI h60 [a, rr, rc] := K26_lp0_.wr W60 (Or.inl (List.mem_of_getElem? (i := 0) rfl))
      refine Go.step (st60) ?_
      show Go _ _ _ _ _ _ _ T60 (mkF m 126 #[_, _, _, _, _] [])
      refine Go.step (fun tt kk => XS.goto X60.here hx rfl (pc0 := 126) (pc' := 26) rfl (hb hby d15_126) (by decide) (by decide) kk) ?_
      show Go _ _ _ _ _ _ _ T60 (mkF m 26 #[_, _, _, _, _] [])
      have f61 := (Exa.wr W60 f26_lp0__0)
      have f62 := (Fld.other W60 f26_lp0__1 (Or.inr (slot_ne (Or.inr (hw _ (List.mem_of_getElem? (i := 18) rfl))) (Or.inl (hw _ (List.mem_of_getElem? (i := 109) rfl))) (by decide) (t := .int) (t' := .int) (by decide) (by decide))))
      have f63 := (Fld.other W60 f26_lp0__2 (Or.inr (slot_ne (Or.inl (hw _ (List.mem_of_getElem? (i := 86) rfl))) (Or.inl (hw _ (List.mem_of_getElem? (i := 109) rfl))) (by decide) (t := .long) (t' := .int) (by decide) (by decide))))
      have f64 := (Fld.other W60 f26_lp0__3 (Or.inr (slot_ne (Or.inr (hw _ (List.mem_of_getElem? (i := 39) rfl))) (Or.inl (hw _ (List.mem_of_getElem? (i := 109) rfl))) (by decide) (t := (.array .long)) (t' := .int) (by decide) (by decide))))
      have f65 := (Fld.other W60 f26_lp0__4 (Or.inr (slot_ne (Or.inr (hw _ (List.mem_of_getElem? (i := 41) rfl))) (Or.inl (hw _ (List.mem_of_getElem? (i := 109) rfl))) (by decide) (t := (.array .long)) (t' := .int) (by decide) (by decide))))
      have f66 := (Fld.other W60 f26_lp0__5 (Or.inr (slot_ne (Or.inl (hw _ (List.mem_of_getElem? (i := 107) rfl))) (Or.inl (hw _ (List.mem_of_getElem? (i := 109) rfl))) (by decide) (t := .boolean) (t' := .int) (by decide) (by decide))))
      have f67 := (f26_lp0__7.other W60 (Ne.symm ne_a_rr))
      have f68 := (f26_lp0__8.other W60 (Ne.symm ne_a_rc))
      exact ih  _ _ _ (X60.more (by decide) (by decide)) e60 N60 Z60 K60 f61 f62 f63 f64 f65 f66 F60 f67 f68 (by omega)
  exact lp0_26 (nr - k)  _ _ _ (X2.more (by decide) (by decide)) e2 N0 Z0 K0 E_a F_0 F_1 F_2 F_3 F_4 f3 V_rr V_rc (by omega)
theorem ef_rmNs0 (m : MethodId) (x0 : Addr) : entryFrame m #[(.ref x0)] 5 = mkF m 0 #[.val (.ref x0), .unset, .unset, .unset, .unset] [] := by first | (simp [entryFrame, mkF, argsToLocals, Value.category]; done) | rfl
theorem d15_137 : decode prog_61_method_7_code 137 = .ok (.iconst 1, 1) := by decide +kernel
theorem d15_138 : decode prog_61_method_7_code 138 = .ok (.goto 4, 3) := by decide +kernel
set_option maxRecDepth 65536 in
set_option maxHeartbeats 40000000 in
theorem rmNs0 (l : Launch) (Z : State) (a0 : Array Value) (hw : ∀ d ∈ tables_1, d.before a0 Z = true) (ws : List Jvm.Cond) (a rr rc : Addr) (H nr nc k K : Nat) (tk : Int64) (F G : Nat → Int64) (h0 : Heap) (n0 : Nat) (Z0 : n0 ≤ h0.size) (E_a : Exa Z h0 a "com/example/gridwright/gridwright/engine/LargeDraft") (F_0 : Fld Z h0 a "com/example/gridwright/gridwright/engine/Draft" "height" "I" (.int (Int32.ofNat H))) (F_1 : Fld Z h0 a "com/example/gridwright/gridwright/engine/Draft" "taken" "J" (.long tk)) (F_2 : Fld Z h0 a "com/example/gridwright/gridwright/engine/LargeDraft" "waitingRows" "[J" (.ref rr)) (F_3 : Fld Z h0 a "com/example/gridwright/gridwright/engine/LargeDraft" "waitingColumns" "[J" (.ref rc)) (F_4 : Fld Z h0 a "com/example/gridwright/gridwright/engine/LargeDraft" "rows" "Z" (.int (0 : Int32))) (F_5 : Fld Z h0 a "com/example/gridwright/gridwright/engine/LargeDraft" "scan" "I" (.int (Int32.ofNat k))) (V_rr : AV Z h0 rr .long nr (lv F)) (V_rc : AV Z h0 rc .long nc (lv G)) (g_a : n0 ≤ a) (g_rr : n0 ≤ rr) (g_rc : n0 ≤ rc) (ne_a_rr : a ≠ rr) (ne_a_rc : a ≠ rc) (ne_rr_rc : rr ≠ rc) (hnr : nr ≤ 2) (hnc : nc ≤ 2) (hk : k ≤ nc) (hK : K < nr) (hz0 : ∀ j, k ≤ j → j < nc → G j = 0) (hz1 : ∀ j, 0 ≤ j → j < K → F j = 0) (hnz : ¬ F K = 0) :
    Ctr l Z (⟨"com/example/gridwright/gridwright/engine/LargeDraft", "next", "()I"⟩ : MethodName) prog_61_method_7_code 5 (some .int) ws ({ frames := 2, cells := 0, slots := 0, locals := 29 } : Room) 0 0 #[(.ref a)] h0 (fun v h L => ∃ tk' : Int64, v = some (.int ((64 : Int32) * Int32.ofNat K + ntz (F K))) ∧ Fr n0 L ∧ Keep h0 h [a, rr, rc] ∧ Exa Z h a "com/example/gridwright/gridwright/engine/LargeDraft" ∧ Fld Z h a "com/example/gridwright/gridwright/engine/Draft" "height" "I" (.int (Int32.ofNat H)) ∧ Fld Z h a "com/example/gridwright/gridwright/engine/Draft" "taken" "J" (.long tk') ∧ Fld Z h a "com/example/gridwright/gridwright/engine/LargeDraft" "waitingRows" "[J" (.ref rr) ∧ Fld Z h a "com/example/gridwright/gridwright/engine/LargeDraft" "waitingColumns" "[J" (.ref rc) ∧ Fld Z h a "com/example/gridwright/gridwright/engine/LargeDraft" "rows" "Z" (.int (1 : Int32)) ∧ Fld Z h a "com/example/gridwright/gridwright/engine/LargeDraft" "scan" "I" (.int (Int32.ofNat K)) ∧ AV Z h rr .long nr (lv (loAt F K)) ∧ AV Z h rc .long nc (lv G)) := by
  refine Ctr.mk (plainFor_of_name pn_4) fun p e s m below meth c T0 X0 C e0 => go_cast (ef_rmNs0 m a) ?_
  have N0 := Fr.nil n0
  obtain ⟨hx, hZ, hby, hml, hown, hnm, hret, hlk⟩ := C
  obtain ⟨hI, eI⟩ : ∃ z, z = h0 := ⟨_, rfl⟩
  have K0 : Keep hI h0 [a, rr, rc] := by rw [eI]; exact Keep.refl _ _
  show Go _ _ _ _ _ _ _ T0 (mkF m 0 #[.val (.ref a), .unset, .unset, .unset, .unset] [])
  refine Go.step (fun tt kk => XS.iconst X0.here hx rfl (hb hby d15_0) kk) ?_
  show Go _ _ _ _ _ _ _ T0 (mkF m 1 #[_, _, _, _, _] [(.int (0 : Int32))])
  refine Go.step (fun tt kk => XS.istoreN X0.here hx rfl (hb hby d15_1) rfl (l' := #[.val (.ref a), .val (.int (0 : Int32)), .unset, .unset, .unset]) rfl kk) ?_
  show Go _ _ _ _ _ _ _ T0 (mkF m 2 #[_, _, _, _, _] [])
  refine Go.step (fun tt kk => XS.iloadN X0.here hx rfl (hb hby d15_2) rfl kk) ?_
  show Go _ _ _ _ _ _ _ T0 (mkF m 3 #[_, _, _, _, _] [(.int (0 : Int32))])
  refine Go.step (fun tt kk => XS.iconst X0.here hx rfl (hb hby d15_3) kk) ?_
  show Go _ _ _ _ _ _ _ T0 (mkF m 4 #[_, _, _, _, _] [(.int (2 : Int32)), (.int (0 : Int32))])
  refine Go.step (fun tt kk => XS.icmpNo X0.here hx rfl (hb hby d15_4) rfl (tlt (by decide)).2.1 kk) ?_
  show Go _ _ _ _ _ _ _ T0 (mkF m 7 #[_, _, _, _, _] [])
  refine Go.step (fun tt kk => XS.aloadN X0.here hx rfl (hb hby d15_7) rfl rfl kk) ?_
  show Go _ _ _ _ _ _ _ T0 (mkF m 8 #[_, _, _, _, _] [(.ref a)])
  obtain ⟨T1, X1, e1, st1⟩ := getF X0 hx hZ hown (host := "") (Or.inl (hw _ (List.mem_of_getElem? (i := 106) rfl))) Via.refl e0 F_4 (g := (mkF m 8 #[.val (.ref a), .val (.int (0 : Int32)), .unset, .unset, .unset] [(.ref a)])) rfl rfl (hb hby d15_8)
  refine Go.step (st1) ?_
  show Go _ _ _ _ _ _ _ T1 (mkF m 11 #[_, _, _, _, _] [(.int (0 : Int32))])
  refine Go.step (fun tt kk => XS.ifYes X1.here hx rfl (pc0 := 11) (pc' := 21) rfl (hb hby d15_11) rfl ((if0 _ _).trans (teq (by decide)).1) (by decide) (by decide) kk) ?_
  show Go _ _ _ _ _ _ _ T1 (mkF m 21 #[_, _, _, _, _] [])
  refine Go.step (fun tt kk => XS.aloadN X1.here hx rfl (hb hby d15_21) rfl rfl kk) ?_
  show Go _ _ _ _ _ _ _ T1 (mkF m 22 #[_, _, _, _, _] [(.ref a)])
  obtain ⟨T2, X2, e2, st2⟩ := getF X1 hx hZ hown (host := "") (Or.inl (hw _ (List.mem_of_getElem? (i := 40) rfl))) Via.refl e1 F_3 (g := (mkF m 22 #[.val (.ref a), .val (.int (0 : Int32)), .unset, .unset, .unset] [(.ref a)])) rfl rfl (hb hby d15_22)
  refine Go.step (st2) ?_
  show Go _ _ _ _ _ _ _ T2 (mkF m 25 #[_, _, _, _, _] [(.ref rc)])
  refine Go.step (fun tt kk => XS.astoreN X2.here hx rfl (hb hby d15_25) rfl rfl (l' := #[.val (.ref a), .val (.int (0 : Int32)), .val (.ref rc), .unset, .unset]) rfl kk) ?_
  show Go _ _ _ _ _ _ _ T2 (mkF m 26 #[_, _, _, _, _] [])
  have f3 : Fld Z h0 a "com/example/gridwright/gridwright/engine/LargeDraft" "scan" "I" (.int (Int32.ofNat (nc - (nc - k)))) := by
    have q := F_5
    rw [show nc - (nc - k) = k by omega]; exact q
  have lp0_26 : ∀ (u : Nat)  (T26_lp0_ : State) (lc26_lp0_ : List Loc) (hh26_lp0_ : Heap) (X26_lp0_ : Stand p l e ({ frames := 2, cells := 0, slots := 0, locals := 29 } : Room) s m #[(.ref a)] below meth c T26_lp0_ lc26_lp0_ 0 0) (e26_lp0_ : T26_lp0_.heap = hh26_lp0_) (N26_lp0_ : Fr n0 lc26_lp0_) (Z26_lp0_ : n0 ≤ hh26_lp0_.size) (K26_lp0_ : Keep hI hh26_lp0_ [a, rr, rc]) (f26_lp0__0 : Exa Z hh26_lp0_ a "com/example/gridwright/gridwright/engine/LargeDraft") (f26_lp0__1 : Fld Z hh26_lp0_ a "com/example/gridwright/gridwright/engine/Draft" "height" "I" (.int (Int32.ofNat H))) (f26_lp0__2 : Fld Z hh26_lp0_ a "com/example/gridwright/gridwright/engine/Draft" "taken" "J" (.long tk)) (f26_lp0__3 : Fld Z hh26_lp0_ a "com/example/gridwright/gridwright/engine/LargeDraft" "waitingRows" "[J" (.ref rr)) (f26_lp0__4 : Fld Z hh26_lp0_ a "com/example/gridwright/gridwright/engine/LargeDraft" "waitingColumns" "[J" (.ref rc)) (f26_lp0__5 : Fld Z hh26_lp0_ a "com/example/gridwright/gridwright/engine/LargeDraft" "rows" "Z" (.int (0 : Int32))) (f26_lp0__6 : Fld Z hh26_lp0_ a "com/example/gridwright/gridwright/engine/LargeDraft" "scan" "I" (.int (Int32.ofNat (nc - u)))) (f26_lp0__7 : AV Z hh26_lp0_ rr .long nr (lv F)) (f26_lp0__8 : AV Z hh26_lp0_ rc .long nc (lv G)) (hu0 : u + k ≤ nc),
      Go p e s below 0 0 (fun v h L => ∃ tk' : Int64, v = some (.int ((64 : Int32) * Int32.ofNat K + ntz (F K))) ∧ Fr n0 L ∧ Keep h0 h [a, rr, rc] ∧ Exa Z h a "com/example/gridwright/gridwright/engine/LargeDraft" ∧ Fld Z h a "com/example/gridwright/gridwright/engine/Draft" "height" "I" (.int (Int32.ofNat H)) ∧ Fld Z h a "com/example/gridwright/gridwright/engine/Draft" "taken" "J" (.long tk') ∧ Fld Z h a "com/example/gridwright/gridwright/engine/LargeDraft" "waitingRows" "[J" (.ref rr) ∧ Fld Z h a "com/example/gridwright/gridwright/engine/LargeDraft" "waitingColumns" "[J" (.ref rc) ∧ Fld Z h a "com/example/gridwright/gridwright/engine/LargeDraft" "rows" "Z" (.int (1 : Int32)) ∧ Fld Z h a "com/example/gridwright/gridwright/engine/LargeDraft" "scan" "I" (.int (Int32.ofNat K)) ∧ AV Z h rr .long nr (lv (loAt F K)) ∧ AV Z h rc .long nc (lv G)) T26_lp0_ (mkF m 26 #[.val (.ref a), .val (.int (0 : Int32)), .val (.ref rc), .unset, .unset] []) := by
    intro u
    induction u with
    | zero =>
      intro  T26_lp0_ lc26_lp0_ hh26_lp0_ X26_lp0_ e26_lp0_ N26_lp0_ Z26_lp0_ K26_lp0_ f26_lp0__0 f26_lp0__1 f26_lp0__2 f26_lp0__3 f26_lp0__4 f26_lp0__5 f26_lp0__6 f26_lp0__7 f26_lp0__8 hu0
      show Go _ _ _ _ _ _ _ T26_lp0_ (mkF m 26 #[.val (.ref a), .val (.int (0 : Int32)), .val (.ref rc), .unset, .unset] [])
      refine Go.step (fun tt kk => XS.aloadN X26_lp0_.here hx rfl (hb hby d15_26) rfl rfl kk) ?_
      show Go _ _ _ _ _ _ _ T26_lp0_ (mkF m 27 #[_, _, _, _, _] [(.ref a)])
      obtain ⟨T4, X4, e4, st4⟩ := getF X26_lp0_ hx hZ hown (host := "") (Or.inl (hw _ (List.mem_of_getElem? (i := 108) rfl))) Via.refl e26_lp0_ f26_lp0__6 (g := (mkF m 27 #[.val (.ref a), .val (.int (0 : Int32)), .val (.ref rc), .unset, .unset] [(.ref a)])) rfl rfl (hb hby d15_27)
      refine Go.step (st4) ?_
      show Go _ _ _ _ _ _ _ T4 (mkF m 30 #[_, _, _, _, _] [(.int (Int32.ofNat nc))])
      refine Go.step (fun tt kk => XS.aloadN X4.here hx rfl (hb hby d15_30) rfl rfl kk) ?_
      show Go _ _ _ _ _ _ _ T4 (mkF m 31 #[_, _, _, _, _] [(.ref rc), (.int (Int32.ofNat nc))])
      refine Go.step (a_len X4 hx hZ e4 f26_lp0__8 (z := (Int32.ofNat nc)) (Int32.toInt_ofNat_of_lt (by omega)) (hb hby d15_31)) ?_
      show Go _ _ _ _ _ _ _ T4 (mkF m 32 #[_, _, _, _, _] [(.int (Int32.ofNat nc)), (.int (Int32.ofNat nc))])
      refine Go.step (fun tt kk => XS.icmpYes X4.here hx rfl (pc0 := 32) (pc' := 129) rfl (hb hby d15_32) rfl (flt (mt (own_lt nc nc (by omega) (by omega)).mp (Nat.lt_irrefl _))).2.1 (by decide) (by decide) kk) ?_
      show Go _ _ _ _ _ _ _ T4 (mkF m 129 #[_, _, _, _, _] [])
      refine Go.step (fun tt kk => XS.aloadN X4.here hx rfl (hb hby d15_129) rfl rfl kk) ?_
      show Go _ _ _ _ _ _ _ T4 (mkF m 130 #[_, _, _, _, _] [(.ref a)])
      refine Go.step (fun tt kk => XS.aloadN X4.here hx rfl (hb hby d15_130) rfl rfl kk) ?_
      show Go _ _ _ _ _ _ _ T4 (mkF m 131 #[_, _, _, _, _] [(.ref a), (.ref a)])
      obtain ⟨T5, X5, e5, st5⟩ := getF X4 hx hZ hown (host := "") (Or.inl (hw _ (List.mem_of_getElem? (i := 106) rfl))) Via.refl e4 f26_lp0__5 (g := (mkF m 131 #[.val (.ref a), .val (.int (0 : Int32)), .val (.ref rc), .unset, .unset] [(.ref a), (.ref a)])) rfl rfl (hb hby d15_131)
      refine Go.step (st5) ?_
      show Go _ _ _ _ _ _ _ T5 (mkF m 134 #[_, _, _, _, _] [(.int (0 : Int32)), (.ref a)])
      refine Go.step (fun tt kk => XS.ifNo X5.here hx rfl (hb hby d15_134) rfl ((if0 _ _).trans (teq (by decide)).2) kk) ?_
      show Go _ _ _ _ _ _ _ T5 (mkF m 137 #[_, _, _, _, _] [(.ref a)])
      refine Go.step (fun tt kk => XS.iconst X5.here hx rfl (hb hby d15_137) kk) ?_
      show Go _ _ _ _ _ _ _ T5 (mkF m 138 #[_, _, _, _, _] [(.int (1 : Int32)), (.ref a)])
      refine Go.step (fun tt kk => XS.goto X5.here hx rfl (pc0 := 138) (pc' := 142) rfl (hb hby d15_138) (by decide) (by decide) kk) ?_
      show Go _ _ _ _ _ _ _ T5 (mkF m 142 #[_, _, _, _, _] [(.int (1 : Int32)), (.ref a)])
      obtain ⟨T6, h6, X6, e6, W6, st6⟩ := putFN X5 hx hZ hown (hw _ (List.mem_of_getElem? (i := 106) rfl)) Via.refl e5 f26_lp0__5 f26_lp0__0 (Or.inl (hw _ (List.mem_of_getElem? (i := 107) rfl))) (hw _ (List.mem_of_getElem? (i := 2) rfl)) (ty := .boolean) (v' := (.int (1 : Int32))) (by decide) rfl rfl (g := (mkF m 142 #[.val (.ref a), .val (.int (0 : Int32)), .val (.ref rc), .unset, .unset] [(.int (1 : Int32)), (.ref a)])) rfl rfl (hb hby d15_142)
      have F6 := Fld.same W6 f26_lp0__5
      have N6 := Fr.snoc X6 N26_lp0_ g_a
      have Z6 : n0 ≤ h6.size := Nat.le_trans Z26_lp0_ (Keep.of_wr W6).1
      have K6 : Keep hI h6 [a, rr, rc] := K26_lp0_.wr W6 (Or.inl (List.mem_of_getElem? (i := 0) rfl))
      refine Go.step (st6) ?_
      show Go _ _ _ _ _ _ _ T6 (mkF m 145 #[_, _, _, _, _] [])
      refine Go.step (fun tt kk => XS.aloadN X6.here hx rfl (hb hby d15_145) rfl rfl kk) ?_
      show Go _ _ _ _ _ _ _ T6 (mkF m 146 #[_, _, _, _, _] [(.ref a)])
      refine Go.step (fun tt kk => XS.iconst X6.here hx rfl (hb hby d15_146) kk) ?_
      show Go _ _ _ _ _ _ _ T6 (mkF m 147 #[_, _, _, _, _] [(.int (0 : Int32)), (.ref a)])
      have f8 := (Fld.other W6 f26_lp0__6 (Or.inr (slot_ne (Or.inl (hw _ (List.mem_of_getElem? (i := 109) rfl))) (Or.inl (hw _ (List.mem_of_getElem? (i := 107) rfl))) (by decide) (t := .int) (t' := .boolean) (by decide) (by decide))))
      have f9 := (Exa.wr W6 f26_lp0__0)
      obtain ⟨T7, h7, X7, e7, W7, st7⟩ := putF X6 hx hZ hown (host := "") (Or.inl (hw _ (List.mem_of_getElem? (i := 108) rfl))) Via.refl e6 f8 f9 (Or.inl (hw _ (List.mem_of_getElem? (i := 109) rfl))) (hw _ (List.mem_of_getElem? (i := 2) rfl)) (ty := .int) (by decide) rfl rfl (g := (mkF m 147 #[.val (.ref a), .val (.int (0 : Int32)), .val (.ref rc), .unset, .unset] [(.int (0 : Int32)), (.ref a)])) rfl rfl (hb hby d15_147)
      have F7 := Fld.same W7 f8
      have N7 := Fr.snoc X7 N6 g_a
      have Z7 : n0 ≤ h7.size := Nat.le_trans Z6 (Keep.of_wr W7).1
      have K7 : Keep hI h7 [a, rr, rc] := K6.wr W7 (Or.inl (List.mem_of_getElem? (i := 0) rfl))
      refine Go.step (st7) ?_
      show Go _ _ _ _ _ _ _ T7 (mkF m 150 #[_, _, _, _, _] [])
      refine Go.step (fun tt kk => XS.iinc X7.here hx rfl (hb hby d15_150) rfl (l' := #[.val (.ref a), .val (.int (1 : Int32)), .val (.ref rc), .unset, .unset]) rfl kk) ?_
      show Go _ _ _ _ _ _ _ T7 (mkF m 153 #[_, _, _, _, _] [])
      show Go _ _ _ _ _ _ _ T7 (mkF m 153 #[.val (.ref a), .val (.int (1 : Int32)), .val (.ref rc), .unset, .unset] [])
      refine Go.step (fun tt kk => XS.goto X7.here hx rfl (pc0 := 153) (pc' := 2) rfl (hb hby d15_153) (by decide) (by decide) kk) ?_
      show Go _ _ _ _ _ _ _ T7 (mkF m 2 #[_, _, _, _, _] [])
      refine Go.step (fun tt kk => XS.iloadN X7.here hx rfl (hb hby d15_2) rfl kk) ?_
      show Go _ _ _ _ _ _ _ T7 (mkF m 3 #[_, _, _, _, _] [(.int (1 : Int32))])
      refine Go.step (fun tt kk => XS.iconst X7.here hx rfl (hb hby d15_3) kk) ?_
      show Go _ _ _ _ _ _ _ T7 (mkF m 4 #[_, _, _, _, _] [(.int (2 : Int32)), (.int (1 : Int32))])
      refine Go.step (fun tt kk => XS.icmpNo X7.here hx rfl (hb hby d15_4) rfl (tlt (by decide)).2.1 kk) ?_
      show Go _ _ _ _ _ _ _ T7 (mkF m 7 #[_, _, _, _, _] [])
      refine Go.step (fun tt kk => XS.aloadN X7.here hx rfl (hb hby d15_7) rfl rfl kk) ?_
      show Go _ _ _ _ _ _ _ T7 (mkF m 8 #[_, _, _, _, _] [(.ref a)])
      have f11 := (Fld.other W7 F6 (Or.inr (slot_ne (Or.inl (hw _ (List.mem_of_getElem? (i := 107) rfl))) (Or.inl (hw _ (List.mem_of_getElem? (i := 109) rfl))) (by decide) (t := .boolean) (t' := .int) (by decide) (by decide))))
      obtain ⟨T10, X10, e10, st10⟩ := getF X7 hx hZ hown (host := "") (Or.inl (hw _ (List.mem_of_getElem? (i := 106) rfl))) Via.refl e7 f11 (g := (mkF m 8 #[.val (.ref a), .val (.int (1 : Int32)), .val (.ref rc), .unset, .unset] [(.ref a)])) rfl rfl (hb hby d15_8)
      refine Go.step (st10) ?_
      show Go _ _ _ _ _ _ _ T10 (mkF m 11 #[_, _, _, _, _] [(.int (1 : Int32))])
      refine Go.step (fun tt kk => XS.ifNo X10.here hx rfl (hb hby d15_11) rfl ((if0 _ _).trans (feq (by decide)).1) kk) ?_
      show Go _ _ _ _ _ _ _ T10 (mkF m 14 #[_, _, _, _, _] [])
      refine Go.step (fun tt kk => XS.aloadN X10.here hx rfl (hb hby d15_14) rfl rfl kk) ?_
      show Go _ _ _ _ _ _ _ T10 (mkF m 15 #[_, _, _, _, _] [(.ref a)])
      have f13 := (Fld.other W7 (Fld.other W6 f26_lp0__3 (Or.inr (slot_ne (Or.inr (hw _ (List.mem_of_getElem? (i := 39) rfl))) (Or.inl (hw _ (List.mem_of_getElem? (i := 107) rfl))) (by decide) (t := (.array .long)) (t' := .boolean) (by decide) (by decide)))) (Or.inr (slot_ne (Or.inr (hw _ (List.mem_of_getElem? (i := 39) rfl))) (Or.inl (hw _ (List.mem_of_getElem? (i := 109) rfl))) (by decide) (t := (.array .long)) (t' := .int) (by decide) (by decide))))
      obtain ⟨T12, X12, e12, st12⟩ := getF X10 hx hZ hown (host := "") (Or.inl (hw _ (List.mem_of_getElem? (i := 38) rfl))) Via.refl e10 f13 (g := (mkF m 15 #[.val (.ref a), .val (.int (1 : Int32)), .val (.ref rc), .unset, .unset] [(.ref a)])) rfl rfl (hb hby d15_15)
      refine Go.step (st12) ?_
      show Go _ _ _ _ _ _ _ T12 (mkF m 18 #[_, _, _, _, _] [(.ref rr)])
      refine Go.step (fun tt kk => XS.goto X12.here hx rfl (pc0 := 18) (pc' := 25) rfl (hb hby d15_18) (by decide) (by decide) kk) ?_
      show Go _ _ _ _ _ _ _ T12 (mkF m 25 #[_, _, _, _, _] [(.ref rr)])
      refine Go.step (fun tt kk => XS.astoreN X12.here hx rfl (hb hby d15_25) rfl rfl (l' := #[.val (.ref a), .val (.int (1 : Int32)), .val (.ref rr), .unset, .unset]) rfl kk) ?_
      show Go _ _ _ _ _ _ _ T12 (mkF m 26 #[_, _, _, _, _] [])
      have f14 : Fld Z h7 a "com/example/gridwright/gridwright/engine/LargeDraft" "scan" "I" (.int (Int32.ofNat (K - (K - 0)))) := by
        have q := F7
        rw [show K - (K - 0) = 0 by omega]; exact q
      have lp1_26 : ∀ (u : Nat)  (T26_lp1_ : State) (lc26_lp1_ : List Loc) (hh26_lp1_ : Heap) (X26_lp1_ : Stand p l e ({ frames := 2, cells := 0, slots := 0, locals := 29 } : Room) s m #[(.ref a)] below meth c T26_lp1_ lc26_lp1_ 0 0) (e26_lp1_ : T26_lp1_.heap = hh26_lp1_) (N26_lp1_ : Fr n0 lc26_lp1_) (Z26_lp1_ : n0 ≤ hh26_lp1_.size) (K26_lp1_ : Keep hI hh26_lp1_ [a, rr, rc]) (f26_lp1__0 : Exa Z hh26_lp1_ a "com/example/gridwright/gridwright/engine/LargeDraft") (f26_lp1__1 : Fld Z hh26_lp1_ a "com/example/gridwright/gridwright/engine/Draft" "height" "I" (.int (Int32.ofNat H))) (f26_lp1__2 : Fld Z hh26_lp1_ a "com/example/gridwright/gridwright/engine/Draft" "taken" "J" (.long tk)) (f26_lp1__3 : Fld Z hh26_lp1_ a "com/example/gridwright/gridwright/engine/LargeDraft" "waitingRows" "[J" (.ref rr)) (f26_lp1__4 : Fld Z hh26_lp1_ a "com/example/gridwright/gridwright/engine/LargeDraft" "waitingColumns" "[J" (.ref rc)) (f26_lp1__5 : Fld Z hh26_lp1_ a "com/example/gridwright/gridwright/engine/LargeDraft" "rows" "Z" (.int (1 : Int32))) (f26_lp1__6 : Fld Z hh26_lp1_ a "com/example/gridwright/gridwright/engine/LargeDraft" "scan" "I" (.int (Int32.ofNat (K - u)))) (f26_lp1__7 : AV Z hh26_lp1_ rr .long nr (lv F)) (f26_lp1__8 : AV Z hh26_lp1_ rc .long nc (lv G)) (hu1 : u + 0 ≤ K),
          Go p e s below 0 0 (fun v h L => ∃ tk' : Int64, v = some (.int ((64 : Int32) * Int32.ofNat K + ntz (F K))) ∧ Fr n0 L ∧ Keep h0 h [a, rr, rc] ∧ Exa Z h a "com/example/gridwright/gridwright/engine/LargeDraft" ∧ Fld Z h a "com/example/gridwright/gridwright/engine/Draft" "height" "I" (.int (Int32.ofNat H)) ∧ Fld Z h a "com/example/gridwright/gridwright/engine/Draft" "taken" "J" (.long tk') ∧ Fld Z h a "com/example/gridwright/gridwright/engine/LargeDraft" "waitingRows" "[J" (.ref rr) ∧ Fld Z h a "com/example/gridwright/gridwright/engine/LargeDraft" "waitingColumns" "[J" (.ref rc) ∧ Fld Z h a "com/example/gridwright/gridwright/engine/LargeDraft" "rows" "Z" (.int (1 : Int32)) ∧ Fld Z h a "com/example/gridwright/gridwright/engine/LargeDraft" "scan" "I" (.int (Int32.ofNat K)) ∧ AV Z h rr .long nr (lv (loAt F K)) ∧ AV Z h rc .long nc (lv G)) T26_lp1_ (mkF m 26 #[.val (.ref a), .val (.int (1 : Int32)), .val (.ref rr), .unset, .unset] []) := by
        intro u
        induction u with
        | zero =>
          intro  T26_lp1_ lc26_lp1_ hh26_lp1_ X26_lp1_ e26_lp1_ N26_lp1_ Z26_lp1_ K26_lp1_ f26_lp1__0 f26_lp1__1 f26_lp1__2 f26_lp1__3 f26_lp1__4 f26_lp1__5 f26_lp1__6 f26_lp1__7 f26_lp1__8 hu1
          show Go _ _ _ _ _ _ _ T26_lp1_ (mkF m 26 #[.val (.ref a), .val (.int (1 : Int32)), .val (.ref rr), .unset, .unset] [])
          refine Go.step (fun tt kk => XS.aloadN X26_lp1_.here hx rfl (hb hby d15_26) rfl rfl kk) ?_
          show Go _ _ _ _ _ _ _ T26_lp1_ (mkF m 27 #[_, _, _, _, _] [(.ref a)])
          obtain ⟨T15, X15, e15, st15⟩ := getF X26_lp1_ hx hZ hown (host := "") (Or.inl (hw _ (List.mem_of_getElem? (i := 108) rfl))) Via.refl e26_lp1_ f26_lp1__6 (g := (mkF m 27 #[.val (.ref a), .val (.int (1 : Int32)), .val (.ref rr), .unset, .unset] [(.ref a)])) rfl rfl (hb hby d15_27)
          refine Go.step (st15) ?_
          show Go _ _ _ _ _ _ _ T15 (mkF m 30 #[_, _, _, _, _] [(.int (Int32.ofNat K))])
          refine Go.step (fun tt kk => XS.aloadN X15.here hx rfl (hb hby d15_30) rfl rfl kk) ?_
          show Go _ _ _ _ _ _ _ T15 (mkF m 31 #[_, _, _, _, _] [(.ref rr), (.int (Int32.ofNat K))])
          refine Go.step (a_len X15 hx hZ e15 f26_lp1__7 (z := (Int32.ofNat nr)) (Int32.toInt_ofNat_of_lt (by omega)) (hb hby d15_31)) ?_
          show Go _ _ _ _ _ _ _ T15 (mkF m 32 #[_, _, _, _, _] [(.int (Int32.ofNat nr)), (.int (Int32.ofNat K))])
          refine Go.step (fun tt kk => XS.icmpNo X15.here hx rfl (hb hby d15_32) rfl (tlt ((own_lt K nr (by omega) (by omega)).mpr hK)).2.1 kk) ?_
          show Go _ _ _ _ _ _ _ T15 (mkF m 35 #[_, _, _, _, _] [])
          refine Go.step (fun tt kk => XS.aloadN X15.here hx rfl (hb hby d15_35) rfl rfl kk) ?_
          show Go _ _ _ _ _ _ _ T15 (mkF m 36 #[_, _, _, _, _] [(.ref rr)])
          refine Go.step (fun tt kk => XS.aloadN X15.here hx rfl (hb hby d15_36) rfl rfl kk) ?_
          show Go _ _ _ _ _ _ _ T15 (mkF m 37 #[_, _, _, _, _] [(.ref a), (.ref rr)])
          obtain ⟨T16, X16, e16, st16⟩ := getF X15 hx hZ hown (host := "") (Or.inl (hw _ (List.mem_of_getElem? (i := 108) rfl))) Via.refl e15 f26_lp1__6 (g := (mkF m 37 #[.val (.ref a), .val (.int (1 : Int32)), .val (.ref rr), .unset, .unset] [(.ref a), (.ref rr)])) rfl rfl (hb hby d15_37)
          refine Go.step (st16) ?_
          show Go _ _ _ _ _ _ _ T16 (mkF m 40 #[_, _, _, _, _] [(.int (Int32.ofNat K)), (.ref rr)])
          refine Go.step (a_jload X16 hx hZ e16 f26_lp1__7 (k := K) (Int32.toInt_ofNat_of_lt (by omega)) hK (x := (F K)) rfl (hb hby d15_40)) ?_
          show Go _ _ _ _ _ _ _ T16 (mkF m 41 #[_, _, _, _, _] [(.long (F K))])
          refine Go.step (fun tt kk => XS.lconst X16.here hx rfl (hb hby d15_41) kk) ?_
          show Go _ _ _ _ _ _ _ T16 (mkF m 42 #[_, _, _, _, _] [(.long (0 : Int64)), (.long (F K))])
          refine Go.step (fun tt kk => XS.lcmp X16.here hx rfl (hb hby d15_42) rfl kk) ?_
          show Go _ _ _ _ _ _ _ T16 (mkF m 43 #[_, _, _, _, _] [(.int (lcmpW (F K) (0 : Int64)))])
          refine Go.step (fun tt kk => XS.ifNo X16.here hx rfl (hb hby d15_43) rfl ((if0 _ _).trans (feq (fun q => hnz ((lw_eq _ _).mp q))).1) kk) ?_
          show Go _ _ _ _ _ _ _ T16 (mkF m 46 #[_, _, _, _, _] [])
          refine Go.step (fun tt kk => XS.bipush X16.here hx rfl (hb hby d15_46) kk) ?_
          show Go _ _ _ _ _ _ _ T16 (mkF m 48 #[_, _, _, _, _] [(.int (64 : Int32))])
          refine Go.step (fun tt kk => XS.aloadN X16.here hx rfl (hb hby d15_48) rfl rfl kk) ?_
          show Go _ _ _ _ _ _ _ T16 (mkF m 49 #[_, _, _, _, _] [(.ref a), (.int (64 : Int32))])
          obtain ⟨T17, X17, e17, st17⟩ := getF X16 hx hZ hown (host := "") (Or.inl (hw _ (List.mem_of_getElem? (i := 108) rfl))) Via.refl e16 f26_lp1__6 (g := (mkF m 49 #[.val (.ref a), .val (.int (1 : Int32)), .val (.ref rr), .unset, .unset] [(.ref a), (.int (64 : Int32))])) rfl rfl (hb hby d15_49)
          refine Go.step (st17) ?_
          show Go _ _ _ _ _ _ _ T17 (mkF m 52 #[_, _, _, _, _] [(.int (Int32.ofNat K)), (.int (64 : Int32))])
          refine Go.step (fun tt kk => XS.imul X17.here hx rfl (hb hby d15_52) rfl kk) ?_
          show Go _ _ _ _ _ _ _ T17 (mkF m 53 #[_, _, _, _, _] [(.int ((64 : Int32) * (Int32.ofNat K)))])
          refine Go.step (fun tt kk => XS.aloadN X17.here hx rfl (hb hby d15_53) rfl rfl kk) ?_
          show Go _ _ _ _ _ _ _ T17 (mkF m 54 #[_, _, _, _, _] [(.ref rr), (.int ((64 : Int32) * (Int32.ofNat K)))])
          refine Go.step (fun tt kk => XS.aloadN X17.here hx rfl (hb hby d15_54) rfl rfl kk) ?_
          show Go _ _ _ _ _ _ _ T17 (mkF m 55 #[_, _, _, _, _] [(.ref a), (.ref rr), (.int ((64 : Int32) * (Int32.ofNat K)))])
          obtain ⟨T18, X18, e18, st18⟩ := getF X17 hx hZ hown (host := "") (Or.inl (hw _ (List.mem_of_getElem? (i := 108) rfl))) Via.refl e17 f26_lp1__6 (g := (mkF m 55 #[.val (.ref a), .val (.int (1 : Int32)), .val (.ref rr), .unset, .unset] [(.ref a), (.ref rr), (.int ((64 : Int32) * (Int32.ofNat K)))])) rfl rfl (hb hby d15_55)
          refine Go.step (st18) ?_
          show Go _ _ _ _ _ _ _ T18 (mkF m 58 #[_, _, _, _, _] [(.int (Int32.ofNat K)), (.ref rr), (.int ((64 : Int32) * (Int32.ofNat K)))])
          refine Go.step (a_jload X18 hx hZ e18 f26_lp1__7 (k := K) (Int32.toInt_ofNat_of_lt (by omega)) hK (x := (F K)) rfl (hb hby d15_58)) ?_
          show Go _ _ _ _ _ _ _ T18 (mkF m 59 #[_, _, _, _, _] [(.long (F K)), (.int ((64 : Int32) * (Int32.ofNat K)))])
          obtain ⟨v19, T19, L19, X19, q19, st19⟩ := c_static X18 hx hZ hown (y := (⟨"java/lang/Long", "numberOfTrailingZeros", "(J)I"⟩ : MethodName)) (hw _ (List.mem_of_getElem? (i := 120) rfl)) (hw _ (List.mem_of_getElem? (i := 121) rfl)) (hw _ (List.mem_of_getElem? (i := 122) rfl)) (hw _ (List.mem_of_getElem? (i := 123) rfl)) (by decide) (argsL := [(.long (F K))]) (rest := [(.int ((64 : Int32) * (Int32.ofNat K)))]) (rmtl l Z a0 hw [] (F K) hh26_lp1_ n0 Z26_lp1_) e18 pd_7 rfl (by rw [hml]; rfl) (W := 1) (by show 2 * 0 + _ ≤ _; exact Nat.le_of_eq rfl) (by decide) (by decide) (by decide) (by decide) (hb hby d15_59) (Ls := #[.val (.ref a), .val (.int (1 : Int32)), .val (.ref rr), .unset, .unset])
          obtain ⟨rfl, rfl, e19⟩ := q19
          have N19 := Fr.app N26_lp1_ (Fr.nil n0)
          refine Go.step (st19) ?_
          show Go _ _ _ _ _ _ _ T19 (mkF m 62 #[_, _, _, _, _] [(.int (ntz (F K))), (.int ((64 : Int32) * (Int32.ofNat K)))])
          refine Go.step (fun tt kk => XS.iadd X19.here hx rfl (hb hby d15_62) rfl kk) ?_
          show Go _ _ _ _ _ _ _ T19 (mkF m 63 #[_, _, _, _, _] [(.int (((64 : Int32) * (Int32.ofNat K)) + (ntz (F K))))])
          refine Go.step (fun tt kk => XS.istoreN X19.here hx rfl (hb hby d15_63) rfl (l' := #[.val (.ref a), .val (.int (1 : Int32)), .val (.ref rr), .val (.int (((64 : Int32) * (Int32.ofNat K)) + (ntz (F K)))), .unset]) rfl kk) ?_
          show Go _ _ _ _ _ _ _ T19 (mkF m 64 #[_, _, _, _, _] [])
          refine Go.step (fun tt kk => XS.aloadN X19.here hx rfl (hb hby d15_64) rfl rfl kk) ?_
          show Go _ _ _ _ _ _ _ T19 (mkF m 65 #[_, _, _, _, _] [(.ref rr)])
          refine Go.step (fun tt kk => XS.aloadN X19.here hx rfl (hb hby d15_65) rfl rfl kk) ?_
          show Go _ _ _ _ _ _ _ T19 (mkF m 66 #[_, _, _, _, _] [(.ref a), (.ref rr)])
          obtain ⟨T20, X20, e20, st20⟩ := getF X19 hx hZ hown (host := "") (Or.inl (hw _ (List.mem_of_getElem? (i := 108) rfl))) Via.refl e19 f26_lp1__6 (g := (mkF m 66 #[.val (.ref a), .val (.int (1 : Int32)), .val (.ref rr), .val (.int (((64 : Int32) * (Int32.ofNat K)) + (ntz (F K)))), .unset] [(.ref a), (.ref rr)])) rfl rfl (hb hby d15_66)
          refine Go.step (st20) ?_
          show Go _ _ _ _ _ _ _ T20 (mkF m 69 #[_, _, _, _, _] [(.int (Int32.ofNat K)), (.ref rr)])
          refine Go.step (fun tt kk => by jvm_step X20.here [X20.here.top, hx, (hb hby d15_69), Value.category]; exact kk) ?_
          show Go _ _ _ _ _ _ _ T20 (mkF m 70 #[_, _, _, _, _] [(.int (Int32.ofNat K)), (.ref rr), (.int (Int32.ofNat K)), (.ref rr)])
          refine Go.step (a_jload X20 hx hZ e20 f26_lp1__7 (k := K) (Int32.toInt_ofNat_of_lt (by omega)) hK (x := (F K)) rfl (hb hby d15_70)) ?_
          show Go _ _ _ _ _ _ _ T20 (mkF m 71 #[_, _, _, _, _] [(.long (F K)), (.int (Int32.ofNat K)), (.ref rr)])
          refine Go.step (fun tt kk => XS.aloadN X20.here hx rfl (hb hby d15_71) rfl rfl kk) ?_
          show Go _ _ _ _ _ _ _ T20 (mkF m 72 #[_, _, _, _, _] [(.ref rr), (.long (F K)), (.int (Int32.ofNat K)), (.ref rr)])
          refine Go.step (fun tt kk => XS.aloadN X20.here hx rfl (hb hby d15_72) rfl rfl kk) ?_
          show Go _ _ _ _ _ _ _ T20 (mkF m 73 #[_, _, _, _, _] [(.ref a), (.ref rr), (.long (F K)), (.int (Int32.ofNat K)), (.ref rr)])
          obtain ⟨T21, X21, e21, st21⟩ := getF X20 hx hZ hown (host := "") (Or.inl (hw _ (List.mem_of_getElem? (i := 108) rfl))) Via.refl e20 f26_lp1__6 (g := (mkF m 73 #[.val (.ref a), .val (.int (1 : Int32)), .val (.ref rr), .val (.int (((64 : Int32) * (Int32.ofNat K)) + (ntz (F K)))), .unset] [(.ref a), (.ref rr), (.long (F K)), (.int (Int32.ofNat K)), (.ref rr)])) rfl rfl (hb hby d15_73)
          refine Go.step (st21) ?_
          show Go _ _ _ _ _ _ _ T21 (mkF m 76 #[_, _, _, _, _] [(.int (Int32.ofNat K)), (.ref rr), (.long (F K)), (.int (Int32.ofNat K)), (.ref rr)])
          refine Go.step (a_jload X21 hx hZ e21 f26_lp1__7 (k := K) (Int32.toInt_ofNat_of_lt (by omega)) hK (x := (F K)) rfl (hb hby d15_76)) ?_
          show Go _ _ _ _ _ _ _ T21 (mkF m 77 #[_, _, _, _, _] [(.long (F K)), (.long (F K)), (.int (Int32.ofNat K)), (.ref rr)])
          refine Go.step (fun tt kk => XS.lconst X21.here hx rfl (hb hby d15_77) kk) ?_
          show Go _ _ _ _ _ _ _ T21 (mkF m 78 #[_, _, _, _, _] [(.long (1 : Int64)), (.long (F K)), (.long (F K)), (.int (Int32.ofNat K)), (.ref rr)])
          refine Go.step (fun tt kk => XS.lsub X21.here hx rfl (hb hby d15_78) rfl kk) ?_
          show Go _ _ _ _ _ _ _ T21 (mkF m 79 #[_, _, _, _, _] [(.long ((F K) - (1 : Int64))), (.long (F K)), (.int (Int32.ofNat K)), (.ref rr)])
          refine Go.step (fun tt kk => XS.land X21.here hx rfl (hb hby d15_79) rfl kk) ?_
          show Go _ _ _ _ _ _ _ T21 (mkF m 80 #[_, _, _, _, _] [(.long ((F K) &&& ((F K) - (1 : Int64)))), (.int (Int32.ofNat K)), (.ref rr)])
          obtain ⟨cl22, Ar22, hin22, -⟩ := f26_lp1__7.at (j := (Int32.ofNat K)) (k := K) (Int32.toInt_ofNat_of_lt (by omega)) hK
          obtain ⟨T22, h22, X22, e22, W22, st22⟩ := stJ X21 hx hZ e21 Ar22 (j := (Int32.ofNat K)) hin22 (g := (mkF m 80 #[.val (.ref a), .val (.int (1 : Int32)), .val (.ref rr), .val (.int (((64 : Int32) * (Int32.ofNat K)) + (ntz (F K)))), .unset] [(.long ((F K) &&& ((F K) - (1 : Int64)))), (.int (Int32.ofNat K)), (.ref rr)])) rfl rfl (hb hby d15_80)
          have V22 : AV Z h22 rr .long nr (upd (lv F) K (.long ((F K) &&& ((F K) - (1 : Int64))))) := AV.set f26_lp1__7 (k := K) (Int32.toInt_ofNat_of_lt (by omega)) hK W22
          have N22 := Fr.snoc X22 N19 g_rr
          have Z22 : n0 ≤ h22.size := Nat.le_trans Z26_lp1_ (Keep.of_wr W22).1
          have K22 : Keep hI h22 [a, rr, rc] := K26_lp1_.wr W22 (Or.inl (List.mem_of_getElem? (i := 1) rfl))
          refine Go.step (st22) ?_
          show Go _ _ _ _ _ _ _ T22 (mkF m 81 #[_, _, _, _, _] [])
          refine Go.step (fun tt kk => XS.aloadN X22.here hx rfl (hb hby d15_81) rfl rfl kk) ?_
          show Go _ _ _ _ _ _ _ T22 (mkF m 82 #[_, _, _, _, _] [(.ref a)])
          have f24 := (Fld.other W22 f26_lp1__5 (Or.inl ne_a_rr))
          obtain ⟨T23, X23, e23, st23⟩ := getF X22 hx hZ hown (host := "") (Or.inl (hw _ (List.mem_of_getElem? (i := 106) rfl))) Via.refl e22 f24 (g := (mkF m 82 #[.val (.ref a), .val (.int (1 : Int32)), .val (.ref rr), .val (.int (((64 : Int32) * (Int32.ofNat K)) + (ntz (F K)))), .unset] [(.ref a)])) rfl rfl (hb hby d15_82)
          refine Go.step (st23) ?_
          show Go _ _ _ _ _ _ _ T23 (mkF m 85 #[_, _, _, _, _] [(.int (1 : Int32))])
          refine Go.step (fun tt kk => XS.ifNo X23.here hx rfl (hb hby d15_85) rfl ((if0 _ _).trans (feq (by decide)).1) kk) ?_
          show Go _ _ _ _ _ _ _ T23 (mkF m 88 #[_, _, _, _, _] [])
          refine Go.step (fun tt kk => XS.iloadN X23.here hx rfl (hb hby d15_88) rfl kk) ?_
          show Go _ _ _ _ _ _ _ T23 (mkF m 89 #[_, _, _, _, _] [(.int (((64 : Int32) * (Int32.ofNat K)) + (ntz (F K))))])
          refine Go.step (fun tt kk => XS.goto X23.here hx rfl (pc0 := 89) (pc' := 98) rfl (hb hby d15_89) (by decide) (by decide) kk) ?_
          show Go _ _ _ _ _ _ _ T23 (mkF m 98 #[_, _, _, _, _] [(.int (((64 : Int32) * (Int32.ofNat K)) + (ntz (F K))))])
          refine Go.step (fun tt kk => XS.istore X23.here hx rfl (hb hby d15_98) rfl (l' := #[.val (.ref a), .val (.int (1 : Int32)), .val (.ref rr), .val (.int (((64 : Int32) * (Int32.ofNat K)) + (ntz (F K)))), .val (.int (((64 : Int32) * (Int32.ofNat K)) + (ntz (F K))))]) rfl kk) ?_
          show Go _ _ _ _ _ _ _ T23 (mkF m 100 #[_, _, _, _, _] [])
          refine Go.step (fun tt kk => XS.aloadN X23.here hx rfl (hb hby d15_100) rfl rfl kk) ?_
          show Go _ _ _ _ _ _ _ T23 (mkF m 101 #[_, _, _, _, _] [(.ref a)])
          refine Go.step (fun tt kk => XS.dup X23.here hx rfl (hb hby d15_101) rfl rfl kk) ?_
          show Go _ _ _ _ _ _ _ T23 (mkF m 102 #[_, _, _, _, _] [(.ref a), (.ref a)])
          have f26 := (Fld.other W22 f26_lp1__2 (Or.inl ne_a_rr))
          obtain ⟨T25, X25, e25, st25⟩ := getF X23 hx hZ hown (host := "") (Or.inl (hw _ (List.mem_of_getElem? (i := 129) rfl))) (Via.of (hw _ (List.mem_of_getElem? (i := 130) rfl))) e23 f26 (g := (mkF m 102 #[.val (.ref a), .val (.int (1 : Int32)), .val (.ref rr), .val (.int (((64 : Int32) * (Int32.ofNat K)) + (ntz (F K)))), .val (.int (((64 : Int32) * (Int32.ofNat K)) + (ntz (F K))))] [(.ref a), (.ref a)])) rfl rfl (hb hby d15_102)
          refine Go.step (st25) ?_
          show Go _ _ _ _ _ _ _ T25 (mkF m 105 #[_, _, _, _, _] [(.long tk), (.ref a)])
          refine Go.step (fun tt kk => XS.lconst X25.here hx rfl (hb hby d15_105) kk) ?_
          show Go _ _ _ _ _ _ _ T25 (mkF m 106 #[_, _, _, _, _] [(.long (1 : Int64)), (.long tk), (.ref a)])
          refine Go.step (fun tt kk => XS.iload X25.here hx rfl (hb hby d15_106) rfl kk) ?_
          show Go _ _ _ _ _ _ _ T25 (mkF m 108 #[_, _, _, _, _] [(.int (((64 : Int32) * (Int32.ofNat K)) + (ntz (F K)))), (.long (1 : Int64)), (.long tk), (.ref a)])
          refine Go.step (fun tt kk => XS.lshl X25.here hx rfl (hb hby d15_108) rfl kk) ?_
          show Go _ _ _ _ _ _ _ T25 (mkF m 109 #[_, _, _, _, _] [(.long ((1 : Int64) <<< ((((64 : Int32) * (Int32.ofNat K)) + (ntz (F K))) &&& 0x3f).toInt64)), (.long tk), (.ref a)])
          refine Go.step (fun tt kk => XS.lor X25.here hx rfl (hb hby d15_109) rfl kk) ?_
          show Go _ _ _ _ _ _ _ T25 (mkF m 110 #[_, _, _, _, _] [(.long (tk ||| ((1 : Int64) <<< ((((64 : Int32) * (Int32.ofNat K)) + (ntz (F K))) &&& 0x3f).toInt64))), (.ref a)])
          have f28 := (Exa.wr W22 f26_lp1__0)
          obtain ⟨T27, h27, X27, e27, W27, st27⟩ := putF X25 hx hZ hown (host := "") (Or.inl (hw _ (List.mem_of_getElem? (i := 129) rfl))) (Via.of (hw _ (List.mem_of_getElem? (i := 130) rfl))) e25 f26 f28 (Or.inl (hw _ (List.mem_of_getElem? (i := 86) rfl))) (hw _ (List.mem_of_getElem? (i := 2) rfl)) (ty := .long) (by decide) rfl rfl (g := (mkF m 110 #[.val (.ref a), .val (.int (1 : Int32)), .val (.ref rr), .val (.int (((64 : Int32) * (Int32.ofNat K)) + (ntz (F K)))), .val (.int (((64 : Int32) * (Int32.ofNat K)) + (ntz (F K))))] [(.long (tk ||| ((1 : Int64) <<< ((((64 : Int32) * (Int32.ofNat K)) + (ntz (F K))) &&& 0x3f).toInt64))), (.ref a)])) rfl rfl (hb hby d15_110)
          have F27 := Fld.same W27 f26
          have N27 := Fr.snoc X27 N22 g_a
          have Z27 : n0 ≤ h27.size := Nat.le_trans Z22 (Keep.of_wr W27).1
          have K27 : Keep hI h27 [a, rr, rc] := K22.wr W27 (Or.inl (List.mem_of_getElem? (i := 0) rfl))
          refine Go.step (st27) ?_
          show Go _ _ _ _ _ _ _ T27 (mkF m 113 #[_, _, _, _, _] [])
          refine Go.step (fun tt kk => XS.iload X27.here hx rfl (hb hby d15_113) rfl kk) ?_
          show Go _ _ _ _ _ _ _ T27 (mkF m 115 #[_, _, _, _, _] [(.int (((64 : Int32) * (Int32.ofNat K)) + (ntz (F K))))])
          have f29 := (Exa.wr W27 f28)
          have f30 := (Fld.other W27 (Fld.other W22 f26_lp1__1 (Or.inl ne_a_rr)) (Or.inr (slot_ne (Or.inr (hw _ (List.mem_of_getElem? (i := 18) rfl))) (Or.inl (hw _ (List.mem_of_getElem? (i := 86) rfl))) (by decide) (t := .int) (t' := .long) (by decide) (by decide))))
          have f31 := (Fld.other W27 (Fld.other W22 f26_lp1__3 (Or.inl ne_a_rr)) (Or.inr (slot_ne (Or.inr (hw _ (List.mem_of_getElem? (i := 39) rfl))) (Or.inl (hw _ (List.mem_of_getElem? (i := 86) rfl))) (by decide) (t := (.array .long)) (t' := .long) (by decide) (by decide))))
          have f32 := (Fld.other W27 (Fld.other W22 f26_lp1__4 (Or.inl ne_a_rr)) (Or.inr (slot_ne (Or.inr (hw _ (List.mem_of_getElem? (i := 41) rfl))) (Or.inl (hw _ (List.mem_of_getElem? (i := 86) rfl))) (by decide) (t := (.array .long)) (t' := .long) (by decide) (by decide))))
          have f33 := (Fld.other W27 f24 (Or.inr (slot_ne (Or.inl (hw _ (List.mem_of_getElem? (i := 107) rfl))) (Or.inl (hw _ (List.mem_of_getElem? (i := 86) rfl))) (by decide) (t := .boolean) (t' := .long) (by decide) (by decide))))
          have f34 := (Fld.other W27 (Fld.other W22 f26_lp1__6 (Or.inl ne_a_rr)) (Or.inr (slot_ne (Or.inl (hw _ (List.mem_of_getElem? (i := 109) rfl))) (Or.inl (hw _ (List.mem_of_getElem? (i := 86) rfl))) (by decide) (t := .int) (t' := .long) (by decide) (by decide))))
          have f35 := (V22.other W27 (Ne.symm ne_a_rr))
          have f36 := ((f26_lp1__8.other W22 (Ne.symm ne_rr_rc)).other W27 (Ne.symm ne_a_rc))
          refine go_retI X27 hx hret hlk (hb hby d15_115) ?_ (by decide) (by decide)
          try rw [e27]
          exact ⟨_, rfl, N27, eI ▸ K27, f29, f30, F27, f31, f32, f33, f34, (AV.congr (g := lv (loAt F K)) f35 fun i hi => by
              by_cases q : i = K
              · subst q; exact upd_eq.trans (congrArg Value.long (if_pos rfl).symm)
              · exact (upd_ne q).trans (congrArg Value.long (if_neg q).symm)), f36⟩
        | succ u ih =>
          intro  T26_lp1_ lc26_lp1_ hh26_lp1_ X26_lp1_ e26_lp1_ N26_lp1_ Z26_lp1_ K26_lp1_ f26_lp1__0 f26_lp1__1 f26_lp1__2 f26_lp1__3 f26_lp1__4 f26_lp1__5 f26_lp1__6 f26_lp1__7 f26_lp1__8 hu1
          show Go _ _ _ _ _ _ _ T26_lp1_ (mkF m 26 #[.val (.ref a), .val (.int (1 : Int32)), .val (.ref rr), .unset, .unset] [])
          refine Go.step (fun tt kk => XS.aloadN X26_lp1_.here hx rfl (hb hby d15_26) rfl rfl kk) ?_
          show Go _ _ _ _ _ _ _ T26_lp1_ (mkF m 27 #[_, _, _, _, _] [(.ref a)])
          obtain ⟨T37, X37, e37, st37⟩ := getF X26_lp1_ hx hZ hown (host := "") (Or.inl (hw _ (List.mem_of_getElem? (i := 108) rfl))) Via.refl e26_lp1_ f26_lp1__6 (g := (mkF m 27 #[.val (.ref a), .val (.int (1 : Int32)), .val (.ref rr), .unset, .unset] [(.ref a)])) rfl rfl (hb hby d15_27)
          refine Go.step (st37) ?_
          show Go _ _ _ _ _ _ _ T37 (mkF m 30 #[_, _, _, _, _] [(.int (Int32.ofNat (K - (u + 1))))])
          refine Go.step (fun tt kk => XS.aloadN X37.here hx rfl (hb hby d15_30) rfl rfl kk) ?_
          show Go _ _ _ _ _ _ _ T37 (mkF m 31 #[_, _, _, _, _] [(.ref rr), (.int (Int32.ofNat (K - (u + 1))))])
          refine Go.step (a_len X37 hx hZ e37 f26_lp1__7 (z := (Int32.ofNat nr)) (Int32.toInt_ofNat_of_lt (by omega)) (hb hby d15_31)) ?_
          show Go _ _ _ _ _ _ _ T37 (mkF m 32 #[_, _, _, _, _] [(.int (Int32.ofNat nr)), (.int (Int32.ofNat (K - (u + 1))))])
          refine Go.step (fun tt kk => XS.icmpNo X37.here hx rfl (hb hby d15_32) rfl (tlt ((own_lt (K - (u + 1)) nr (by omega) (by omega)).mpr (by omega))).2.1 kk) ?_
          show Go _ _ _ _ _ _ _ T37 (mkF m 35 #[_, _, _, _, _] [])
          refine Go.step (fun tt kk => XS.aloadN X37.here hx rfl (hb hby d15_35) rfl rfl kk) ?_
          show Go _ _ _ _ _ _ _ T37 (mkF m 36 #[_, _, _, _, _] [(.ref rr)])
          refine Go.step (fun tt kk => XS.aloadN X37.here hx rfl (hb hby d15_36) rfl rfl kk) ?_
          show Go _ _ _ _ _ _ _ T37 (mkF m 37 #[_, _, _, _, _] [(.ref a), (.ref rr)])
          obtain ⟨T38, X38, e38, st38⟩ := getF X37 hx hZ hown (host := "") (Or.inl (hw _ (List.mem_of_getElem? (i := 108) rfl))) Via.refl e37 f26_lp1__6 (g := (mkF m 37 #[.val (.ref a), .val (.int (1 : Int32)), .val (.ref rr), .unset, .unset] [(.ref a), (.ref rr)])) rfl rfl (hb hby d15_37)
          refine Go.step (st38) ?_
          show Go _ _ _ _ _ _ _ T38 (mkF m 40 #[_, _, _, _, _] [(.int (Int32.ofNat (K - (u + 1)))), (.ref rr)])
          refine Go.step (a_jload X38 hx hZ e38 f26_lp1__7 (k := (K - (u + 1))) (Int32.toInt_ofNat_of_lt (by omega)) (by omega) (x := (F (K - (u + 1)))) rfl (hb hby d15_40)) ?_
          show Go _ _ _ _ _ _ _ T38 (mkF m 41 #[_, _, _, _, _] [(.long (F (K - (u + 1))))])
          refine Go.step (fun tt kk => XS.lconst X38.here hx rfl (hb hby d15_41) kk) ?_
          show Go _ _ _ _ _ _ _ T38 (mkF m 42 #[_, _, _, _, _] [(.long (0 : Int64)), (.long (F (K - (u + 1))))])
          refine Go.step (fun tt kk => XS.lcmp X38.here hx rfl (hb hby d15_42) rfl kk) ?_
          show Go _ _ _ _ _ _ _ T38 (mkF m 43 #[_, _, _, _, _] [(.int (lcmpW (F (K - (u + 1))) (0 : Int64)))])
          refine Go.step (fun tt kk => XS.ifYes X38.here hx rfl (pc0 := 43) (pc' := 116) rfl (hb hby d15_43) rfl ((if0 _ _).trans (teq ((lw_eq _ _).mpr (hz1 (K - (u + 1)) (by omega) (by omega)))).1) (by decide) (by decide) kk) ?_
          show Go _ _ _ _ _ _ _ T38 (mkF m 116 #[_, _, _, _, _] [])
          refine Go.step (fun tt kk => XS.aloadN X38.here hx rfl (hb hby d15_116) rfl rfl kk) ?_
          show Go _ _ _ _ _ _ _ T38 (mkF m 117 #[_, _, _, _, _] [(.ref a)])
          refine Go.step (fun tt kk => XS.dup X38.here hx rfl (hb hby d15_117) rfl rfl kk) ?_
          show Go _ _ _ _ _ _ _ T38 (mkF m 118 #[_, _, _, _, _] [(.ref a), (.ref a)])
          obtain ⟨T39, X39, e39, st39⟩ := getF X38 hx hZ hown (host := "") (Or.inl (hw _ (List.mem_of_getElem? (i := 108) rfl))) Via.refl e38 f26_lp1__6 (g := (mkF m 118 #[.val (.ref a), .val (.int (1 : Int32)), .val (.ref rr), .unset, .unset] [(.ref a), (.ref a)])) rfl rfl (hb hby d15_118)
          refine Go.step (st39) ?_
          show Go _ _ _ _ _ _ _ T39 (mkF m 121 #[_, _, _, _, _] [(.int (Int32.ofNat (K - (u + 1)))), (.ref a)])
          refine Go.step (fun tt kk => XS.iconst X39.here hx rfl (hb hby d15_121) kk) ?_
          show Go _ _ _ _ _ _ _ T39 (mkF m 122 #[_, _, _, _, _] [(.int (1 : Int32)), (.int (Int32.ofNat (K - (u + 1)))), (.ref a)])
          refine Go.step (fun tt kk => XS.iadd X39.here hx rfl (hb hby d15_122) rfl kk) ?_
          show Go _ _ _ _ _ _ _ T39 (mkF m 123 #[_, _, _, _, _] [(.int ((Int32.ofNat (K - (u + 1))) + (1 : Int32))), (.ref a)])
          rw [own_up K u (by omega)]
          show Go _ _ _ _ _ _ _ T39 (mkF m 123 #[.val (.ref a), .val (.int (1 : Int32)), .val (.ref rr), .unset, .unset] [(.int (Int32.ofNat (K - u))), (.ref a)])
          obtain ⟨T40, h40, X40, e40, W40, st40⟩ := putF X39 hx hZ hown (host := "") (Or.inl (hw _ (List.mem_of_getElem? (i := 108) rfl))) Via.refl e39 f26_lp1__6 f26_lp1__0 (Or.inl (hw _ (List.mem_of_getElem? (i := 109) rfl))) (hw _ (List.mem_of_getElem? (i := 2) rfl)) (ty := .int) (by decide) rfl rfl (g := (mkF m 123 #[.val (.ref a), .val (.int (1 : Int32)), .val (.ref rr), .unset, .unset] [(.int (Int32.ofNat (K - u))), (.ref a)])) rfl rfl (hb hby d15_123)
          have F40 := Fld.same W40 f26_lp1__6
          have N40 := Fr.snoc X40 N26_lp1_ g_a
          have Z40 : n0 ≤ h40.size := Nat.le_trans Z26_lp1_ (Keep.of_wr W40).1
          have K40 : Keep hI h40 [a, rr, rc] := K26_lp1_.wr W40 (Or.inl (List.mem_of_getElem? (i := 0) rfl))
          refine Go.step (st40) ?_
          show Go _ _ _ _ _ _ _ T40 (mkF m 126 #[_, _, _, _, _] [])
          refine Go.step (fun tt kk => XS.goto X40.here hx rfl (pc0 := 126) (pc' := 26) rfl (hb hby d15_126) (by decide) (by decide) kk) ?_
          show Go _ _ _ _ _ _ _ T40 (mkF m 26 #[_, _, _, _, _] [])
          have f41 := (Exa.wr W40 f26_lp1__0)
          have f42 := (Fld.other W40 f26_lp1__1 (Or.inr (slot_ne (Or.inr (hw _ (List.mem_of_getElem? (i := 18) rfl))) (Or.inl (hw _ (List.mem_of_getElem? (i := 109) rfl))) (by decide) (t := .int) (t' := .int) (by decide) (by decide))))
          have f43 := (Fld.other W40 f26_lp1__2 (Or.inr (slot_ne (Or.inl (hw _ (List.mem_of_getElem? (i := 86) rfl))) (Or.inl (hw _ (List.mem_of_getElem? (i := 109) rfl))) (by decide) (t := .long) (t' := .int) (by decide) (by decide))))
          have f44 := (Fld.other W40 f26_lp1__3 (Or.inr (slot_ne (Or.inr (hw _ (List.mem_of_getElem? (i := 39) rfl))) (Or.inl (hw _ (List.mem_of_getElem? (i := 109) rfl))) (by decide) (t := (.array .long)) (t' := .int) (by decide) (by decide))))
          have f45 := (Fld.other W40 f26_lp1__4 (Or.inr (slot_ne (Or.inr (hw _ (List.mem_of_getElem? (i := 41) rfl))) (Or.inl (hw _ (List.mem_of_getElem? (i := 109) rfl))) (by decide) (t := (.array .long)) (t' := .int) (by decide) (by decide))))
          have f46 := (Fld.other W40 f26_lp1__5 (Or.inr (slot_ne (Or.inl (hw _ (List.mem_of_getElem? (i := 107) rfl))) (Or.inl (hw _ (List.mem_of_getElem? (i := 109) rfl))) (by decide) (t := .boolean) (t' := .int) (by decide) (by decide))))
          have f47 := (f26_lp1__7.other W40 (Ne.symm ne_a_rr))
          have f48 := (f26_lp1__8.other W40 (Ne.symm ne_a_rc))
          exact ih  _ _ _ (X40.more (by decide) (by decide)) e40 N40 Z40 K40 f41 f42 f43 f44 f45 f46 F40 f47 f48 (by omega)
      have f49 := (Exa.wr W7 f9)
      have f50 := (Fld.other W7 (Fld.other W6 f26_lp0__1 (Or.inr (slot_ne (Or.inr (hw _ (List.mem_of_getElem? (i := 18) rfl))) (Or.inl (hw _ (List.mem_of_getElem? (i := 107) rfl))) (by decide) (t := .int) (t' := .boolean) (by decide) (by decide)))) (Or.inr (slot_ne (Or.inr (hw _ (List.mem_of_getElem? (i := 18) rfl))) (Or.inl (hw _ (List.mem_of_getElem? (i := 109) rfl))) (by decide) (t := .int) (t' := .int) (by decide) (by decide))))
      have f51 := (Fld.other W7 (Fld.other W6 f26_lp0__2 (Or.inr (slot_ne (Or.inl (hw _ (List.mem_of_getElem? (i := 86) rfl))) (Or.inl (hw _ (List.mem_of_getElem? (i := 107) rfl))) (by decide) (t := .long) (t' := .boolean) (by decide) (by decide)))) (Or.inr (slot_ne (Or.inl (hw _ (List.mem_of_getElem? (i := 86) rfl))) (Or.inl (hw _ (List.mem_of_getElem? (i := 109) rfl))) (by decide) (t := .long) (t' := .int) (by decide) (by decide))))
      have f52 := (Fld.other W7 (Fld.other W6 f26_lp0__4 (Or.inr (slot_ne (Or.inr (hw _ (List.mem_of_getElem? (i := 41) rfl))) (Or.inl (hw _ (List.mem_of_getElem? (i := 107) rfl))) (by decide) (t := (.array .long)) (t' := .boolean) (by decide) (by decide)))) (Or.inr (slot_ne (Or.inr (hw _ (List.mem_of_getElem? (i := 41) rfl))) (Or.inl (hw _ (List.mem_of_getElem? (i := 109) rfl))) (by decide) (t := (.array .long)) (t' := .int) (by decide) (by decide))))
      have f53 := ((f26_lp0__7.other W6 (Ne.symm ne_a_rr)).other W7 (Ne.symm ne_a_rr))
      have f54 := ((f26_lp0__8.other W6 (Ne.symm ne_a_rc)).other W7 (Ne.symm ne_a_rc))
      exact lp1_26 (K - 0)  _ _ _ (X12.more (by decide) (by decide)) e12 N7 Z7 K7 f49 f50 f51 f13 f52 f11 f14 f53 f54 (by omega)
    | succ u ih =>
      intro  T26_lp0_ lc26_lp0_ hh26_lp0_ X26_lp0_ e26_lp0_ N26_lp0_ Z26_lp0_ K26_lp0_ f26_lp0__0 f26_lp0__1 f26_lp0__2 f26_lp0__3 f26_lp0__4 f26_lp0__5 f26_lp0__6 f26_lp0__7 f26_lp0__8 hu0
      show Go _ _ _ _ _ _ _ T26_lp0_ (mkF m 26 #[.val (.ref a), .val (.int (0 : Int32)), .val (.ref rc), .unset, .unset] [])
      refine Go.step (fun tt kk => XS.aloadN X26_lp0_.here hx rfl (hb hby d15_26) rfl rfl kk) ?_
      show Go _ _ _ _ _ _ _ T26_lp0_ (mkF m 27 #[_, _, _, _, _] [(.ref a)])
      obtain ⟨T55, X55, e55, st55⟩ := getF X26_lp0_ hx hZ hown (host := "") (Or.inl (hw _ (List.mem_of_getElem? (i := 108) rfl))) Via.refl e26_lp0_ f26_lp0__6 (g := (mkF m 27 #[.val (.ref a), .val (.int (0 : Int32)), .val (.ref rc), .unset, .unset] [(.ref a)])) rfl rfl (hb hby d15_27)
      refine Go.step (st55) ?_
      show Go _ _ _ _ _ _ _ T55 (mkF m 30 #[_, _, _, _, _] [(.int (Int32.ofNat (nc - (u + 1))))])
      refine Go.step (fun tt kk => XS.aloadN X55.here hx rfl (hb hby d15_30) rfl rfl kk) ?_
      show Go _ _ _ _ _ _ _ T55 (mkF m 31 #[_, _, _, _, _] [(.ref rc), (.int (Int32.ofNat (nc - (u + 1))))])
      refine Go.step (a_len X55 hx hZ e55 f26_lp0__8 (z := (Int32.ofNat nc)) (Int32.toInt_ofNat_of_lt (by omega)) (hb hby d15_31)) ?_
      show Go _ _ _ _ _ _ _ T55 (mkF m 32 #[_, _, _, _, _] [(.int (Int32.ofNat nc)), (.int (Int32.ofNat (nc - (u + 1))))])
      refine Go.step (fun tt kk => XS.icmpNo X55.here hx rfl (hb hby d15_32) rfl (tlt ((own_lt (nc - (u + 1)) nc (by omega) (by omega)).mpr (by omega))).2.1 kk) ?_
      show Go _ _ _ _ _ _ _ T55 (mkF m 35 #[_, _, _, _, _] [])
      refine Go.step (fun tt kk => XS.aloadN X55.here hx rfl (hb hby d15_35) rfl rfl kk) ?_
      show Go _ _ _ _ _ _ _ T55 (mkF m 36 #[_, _, _, _, _] [(.ref rc)])
      refine Go.step (fun tt kk => XS.aloadN X55.here hx rfl (hb hby d15_36) rfl rfl kk) ?_
      show Go _ _ _ _ _ _ _ T55 (mkF m 37 #[_, _, _, _, _] [(.ref a), (.ref rc)])
      obtain ⟨T56, X56, e56, st56⟩ := getF X55 hx hZ hown (host := "") (Or.inl (hw _ (List.mem_of_getElem? (i := 108) rfl))) Via.refl e55 f26_lp0__6 (g := (mkF m 37 #[.val (.ref a), .val (.int (0 : Int32)), .val (.ref rc), .unset, .unset] [(.ref a), (.ref rc)])) rfl rfl (hb hby d15_37)
      refine Go.step (st56) ?_
      show Go _ _ _ _ _ _ _ T56 (mkF m 40 #[_, _, _, _, _] [(.int (Int32.ofNat (nc - (u + 1)))), (.ref rc)])
      refine Go.step (a_jload X56 hx hZ e56 f26_lp0__8 (k := (nc - (u + 1))) (Int32.toInt_ofNat_of_lt (by omega)) (by omega) (x := (G (nc - (u + 1)))) rfl (hb hby d15_40)) ?_
      show Go _ _ _ _ _ _ _ T56 (mkF m 41 #[_, _, _, _, _] [(.long (G (nc - (u + 1))))])
      refine Go.step (fun tt kk => XS.lconst X56.here hx rfl (hb hby d15_41) kk) ?_
      show Go _ _ _ _ _ _ _ T56 (mkF m 42 #[_, _, _, _, _] [(.long (0 : Int64)), (.long (G (nc - (u + 1))))])
      refine Go.step (fun tt kk => XS.lcmp X56.here hx rfl (hb hby d15_42) rfl kk) ?_
      show Go _ _ _ _ _ _ _ T56 (mkF m 43 #[_, _, _, _, _] [(.int (lcmpW (G (nc - (u + 1))) (0 : Int64)))])
      refine Go.step (fun tt kk => XS.ifYes X56.here hx rfl (pc0 := 43) (pc' := 116) rfl (hb hby d15_43) rfl ((if0 _ _).trans (teq ((lw_eq _ _).mpr (hz0 (nc - (u + 1)) (by omega) (by omega)))).1) (by decide) (by decide) kk) ?_
      show Go _ _ _ _ _ _ _ T56 (mkF m 116 #[_, _, _, _, _] [])
      refine Go.step (fun tt kk => XS.aloadN X56.here hx rfl (hb hby d15_116) rfl rfl kk) ?_
      show Go _ _ _ _ _ _ _ T56 (mkF m 117 #[_, _, _, _, _] [(.ref a)])
      refine Go.step (fun tt kk => XS.dup X56.here hx rfl (hb hby d15_117) rfl rfl kk) ?_
      show Go _ _ _ _ _ _ _ T56 (mkF m 118 #[_, _, _, _, _] [(.ref a), (.ref a)])
      obtain ⟨T57, X57, e57, st57⟩ := getF X56 hx hZ hown (host := "") (Or.inl (hw _ (List.mem_of_getElem? (i := 108) rfl))) Via.refl e56 f26_lp0__6 (g := (mkF m 118 #[.val (.ref a), .val (.int (0 : Int32)), .val (.ref rc), .unset, .unset] [(.ref a), (.ref a)])) rfl rfl (hb hby d15_118)
      refine Go.step (st57) ?_
      show Go _ _ _ _ _ _ _ T57 (mkF m 121 #[_, _, _, _, _] [(.int (Int32.ofNat (nc - (u + 1)))), (.ref a)])
      refine Go.step (fun tt kk => XS.iconst X57.here hx rfl (hb hby d15_121) kk) ?_
      show Go _ _ _ _ _ _ _ T57 (mkF m 122 #[_, _, _, _, _] [(.int (1 : Int32)), (.int (Int32.ofNat (nc - (u + 1)))), (.ref a)])
      refine Go.step (fun tt kk => XS.iadd X57.here hx rfl (hb hby d15_122) rfl kk) ?_
      show Go _ _ _ _ _ _ _ T57 (mkF m 123 #[_, _, _, _, _] [(.int ((Int32.ofNat (nc - (u + 1))) + (1 : Int32))), (.ref a)])
      rw [own_up nc u (by omega)]
      show Go _ _ _ _ _ _ _ T57 (mkF m 123 #[.val (.ref a), .val (.int (0 : Int32)), .val (.ref rc), .unset, .unset] [(.int (Int32.ofNat (nc - u))), (.ref a)])
      obtain ⟨T58, h58, X58, e58, W58, st58⟩ := putF X57 hx hZ hown (host := "") (Or.inl (hw _ (List.mem_of_getElem? (i := 108) rfl))) Via.refl e57 f26_lp0__6 f26_lp0__0 (Or.inl (hw _ (List.mem_of_getElem? (i := 109) rfl))) (hw _ (List.mem_of_getElem? (i := 2) rfl)) (ty := .int) (by decide) rfl rfl (g := (mkF m 123 #[.val (.ref a), .val (.int (0 : Int32)), .val (.ref rc), .unset, .unset] [(.int (Int32.ofNat (nc - u))), (.ref a)])) rfl rfl (hb hby d15_123)
      have F58 := Fld.same W58 f26_lp0__6
      have N58 := Fr.snoc X58 N26_lp0_ g_a
      have Z58 : n0 ≤ h58.size := Nat.le_trans Z26_lp0_ (Keep.of_wr W58).1
      have K58 : Keep hI h58 [a, rr, rc] := K26_lp0_.wr W58 (Or.inl (List.mem_of_getElem? (i := 0) rfl))
      refine Go.step (st58) ?_
      show Go _ _ _ _ _ _ _ T58 (mkF m 126 #[_, _, _, _, _] [])
      refine Go.step (fun tt kk => XS.goto X58.here hx rfl (pc0 := 126) (pc' := 26) rfl (hb hby d15_126) (by decide) (by decide) kk) ?_
      show Go _ _ _ _ _ _ _ T58 (mkF m 26 #[_, _, _, _, _] [])
      have f59 := (Exa.wr W58 f26_lp0__0)
      have f60 := (Fld.other W58 f26_lp0__1 (Or.inr (slot_ne (Or.inr (hw _ (List.mem_of_getElem? (i := 18) rfl))) (Or.inl (hw _ (List.mem_of_getElem? (i := 109) rfl))) (by decide) (t := .int) (t' := .int) (by decide) (by decide))))
      have f61 := (Fld.other W58 f26_lp0__2 (Or.inr (slot_ne (Or.inl (hw _ (List.mem_of_getElem? (i := 86) rfl))) (Or.inl (hw _ (List.mem_of_getElem? (i := 109) rfl))) (by decide) (t := .long) (t' := .int) (by decide) (by decide))))
      have f62 := (Fld.other W58 f26_lp0__3 (Or.inr (slot_ne (Or.inr (hw _ (List.mem_of_getElem? (i := 39) rfl))) (Or.inl (hw _ (List.mem_of_getElem? (i := 109) rfl))) (by decide) (t := (.array .long)) (t' := .int) (by decide) (by decide))))
      have f63 := (Fld.other W58 f26_lp0__4 (Or.inr (slot_ne (Or.inr (hw _ (List.mem_of_getElem? (i := 41) rfl))) (Or.inl (hw _ (List.mem_of_getElem? (i := 109) rfl))) (by decide) (t := (.array .long)) (t' := .int) (by decide) (by decide))))
      have f64 := (Fld.other W58 f26_lp0__5 (Or.inr (slot_ne (Or.inl (hw _ (List.mem_of_getElem? (i := 107) rfl))) (Or.inl (hw _ (List.mem_of_getElem? (i := 109) rfl))) (by decide) (t := .boolean) (t' := .int) (by decide) (by decide))))
      have f65 := (f26_lp0__7.other W58 (Ne.symm ne_a_rr))
      have f66 := (f26_lp0__8.other W58 (Ne.symm ne_a_rc))
      exact ih  _ _ _ (X58.more (by decide) (by decide)) e58 N58 Z58 K58 f59 f60 f61 f62 f63 f64 F58 f65 f66 (by omega)
  exact lp0_26 (nc - k)  _ _ _ (X2.more (by decide) (by decide)) e2 N0 Z0 K0 E_a F_0 F_1 F_2 F_3 F_4 f3 V_rr V_rc (by omega)
theorem ef_rmNn1 (m : MethodId) (x0 : Addr) : entryFrame m #[(.ref x0)] 5 = mkF m 0 #[.val (.ref x0), .unset, .unset, .unset, .unset] [] := by first | (simp [entryFrame, mkF, argsToLocals, Value.category]; done) | rfl
theorem d15_156 : decode prog_61_method_7_code 156 = .ok (.iconst (-1), 1) := by decide +kernel
theorem d15_157 : decode prog_61_method_7_code 157 = .ok (.ireturn, 1) := by decide +kernel
set_option maxRecDepth 65536 in
set_option maxHeartbeats 40000000 in
theorem rmNn1 (l : Launch) (Z : State) (a0 : Array Value) (hw : ∀ d ∈ tables_1, d.before a0 Z = true) (ws : List Jvm.Cond) (a rr rc : Addr) (H nr nc k K : Nat) (tk : Int64) (F G : Nat → Int64) (h0 : Heap) (n0 : Nat) (Z0 : n0 ≤ h0.size) (E_a : Exa Z h0 a "com/example/gridwright/gridwright/engine/LargeDraft") (F_0 : Fld Z h0 a "com/example/gridwright/gridwright/engine/Draft" "height" "I" (.int (Int32.ofNat H))) (F_1 : Fld Z h0 a "com/example/gridwright/gridwright/engine/Draft" "taken" "J" (.long tk)) (F_2 : Fld Z h0 a "com/example/gridwright/gridwright/engine/LargeDraft" "waitingRows" "[J" (.ref rr)) (F_3 : Fld Z h0 a "com/example/gridwright/gridwright/engine/LargeDraft" "waitingColumns" "[J" (.ref rc)) (F_4 : Fld Z h0 a "com/example/gridwright/gridwright/engine/LargeDraft" "rows" "Z" (.int (1 : Int32))) (F_5 : Fld Z h0 a "com/example/gridwright/gridwright/engine/LargeDraft" "scan" "I" (.int (Int32.ofNat k))) (V_rr : AV Z h0 rr .long nr (lv F)) (V_rc : AV Z h0 rc .long nc (lv G)) (g_a : n0 ≤ a) (g_rr : n0 ≤ rr) (g_rc : n0 ≤ rc) (ne_a_rr : a ≠ rr) (ne_a_rc : a ≠ rc) (ne_rr_rc : rr ≠ rc) (hnr : nr ≤ 2) (hnc : nc ≤ 2) (hk : k ≤ nr) (hz0 : ∀ j, k ≤ j → j < nr → F j = 0) (hz1 : ∀ j, 0 ≤ j → j < nc → G j = 0) :
    Ctr l Z (⟨"com/example/gridwright/gridwright/engine/LargeDraft", "next", "()I"⟩ : MethodName) prog_61_method_7_code 5 (some .int) ws ({ frames := 0, cells := 0, slots := 0, locals := 0 } : Room) 0 0 #[(.ref a)] h0 (fun v h L => ∃ tk' : Int64, v = some (.int (-1 : Int32)) ∧ Fr n0 L ∧ Keep h0 h [a, rr, rc] ∧ Exa Z h a "com/example/gridwright/gridwright/engine/LargeDraft" ∧ Fld Z h a "com/example/gridwright/gridwright/engine/Draft" "height" "I" (.int (Int32.ofNat H)) ∧ Fld Z h a "com/example/gridwright/gridwright/engine/Draft" "taken" "J" (.long tk') ∧ Fld Z h a "com/example/gridwright/gridwright/engine/LargeDraft" "waitingRows" "[J" (.ref rr) ∧ Fld Z h a "com/example/gridwright/gridwright/engine/LargeDraft" "waitingColumns" "[J" (.ref rc) ∧ Fld Z h a "com/example/gridwright/gridwright/engine/LargeDraft" "rows" "Z" (.int (1 : Int32)) ∧ Fld Z h a "com/example/gridwright/gridwright/engine/LargeDraft" "scan" "I" (.int (0 : Int32)) ∧ AV Z h rr .long nr (lv F) ∧ AV Z h rc .long nc (lv G)) := by
  refine Ctr.mk (plainFor_of_name pn_4) fun p e s m below meth c T0 X0 C e0 => go_cast (ef_rmNn1 m a) ?_
  have N0 := Fr.nil n0
  obtain ⟨hx, hZ, hby, hml, hown, hnm, hret, hlk⟩ := C
  obtain ⟨hI, eI⟩ : ∃ z, z = h0 := ⟨_, rfl⟩
  have K0 : Keep hI h0 [a, rr, rc] := by rw [eI]; exact Keep.refl _ _
  show Go _ _ _ _ _ _ _ T0 (mkF m 0 #[.val (.ref a), .unset, .unset, .unset, .unset] [])
  refine Go.step (fun tt kk => XS.iconst X0.here hx rfl (hb hby d15_0) kk) ?_
  show Go _ _ _ _ _ _ _ T0 (mkF m 1 #[_, _, _, _, _] [(.int (0 : Int32))])
  refine Go.step (fun tt kk => XS.istoreN X0.here hx rfl (hb hby d15_1) rfl (l' := #[.val (.ref a), .val (.int (0 : Int32)), .unset, .unset, .unset]) rfl kk) ?_
  show Go _ _ _ _ _ _ _ T0 (mkF m 2 #[_, _, _, _, _] [])
  refine Go.step (fun tt kk => XS.iloadN X0.here hx rfl (hb hby d15_2) rfl kk) ?_
  show Go _ _ _ _ _ _ _ T0 (mkF m 3 #[_, _, _, _, _] [(.int (0 : Int32))])
  refine Go.step (fun tt kk => XS.iconst X0.here hx rfl (hb hby d15_3) kk) ?_
  show Go _ _ _ _ _ _ _ T0 (mkF m 4 #[_, _, _, _, _] [(.int (2 : Int32)), (.int (0 : Int32))])
  refine Go.step (fun tt kk => XS.icmpNo X0.here hx rfl (hb hby d15_4) rfl (tlt (by decide)).2.1 kk) ?_
  show Go _ _ _ _ _ _ _ T0 (mkF m 7 #[_, _, _, _, _] [])
  refine Go.step (fun tt kk => XS.aloadN X0.here hx rfl (hb hby d15_7) rfl rfl kk) ?_
  show Go _ _ _ _ _ _ _ T0 (mkF m 8 #[_, _, _, _, _] [(.ref a)])
  obtain ⟨T1, X1, e1, st1⟩ := getF X0 hx hZ hown (host := "") (Or.inl (hw _ (List.mem_of_getElem? (i := 106) rfl))) Via.refl e0 F_4 (g := (mkF m 8 #[.val (.ref a), .val (.int (0 : Int32)), .unset, .unset, .unset] [(.ref a)])) rfl rfl (hb hby d15_8)
  refine Go.step (st1) ?_
  show Go _ _ _ _ _ _ _ T1 (mkF m 11 #[_, _, _, _, _] [(.int (1 : Int32))])
  refine Go.step (fun tt kk => XS.ifNo X1.here hx rfl (hb hby d15_11) rfl ((if0 _ _).trans (feq (by decide)).1) kk) ?_
  show Go _ _ _ _ _ _ _ T1 (mkF m 14 #[_, _, _, _, _] [])
  refine Go.step (fun tt kk => XS.aloadN X1.here hx rfl (hb hby d15_14) rfl rfl kk) ?_
  show Go _ _ _ _ _ _ _ T1 (mkF m 15 #[_, _, _, _, _] [(.ref a)])
  obtain ⟨T2, X2, e2, st2⟩ := getF X1 hx hZ hown (host := "") (Or.inl (hw _ (List.mem_of_getElem? (i := 38) rfl))) Via.refl e1 F_2 (g := (mkF m 15 #[.val (.ref a), .val (.int (0 : Int32)), .unset, .unset, .unset] [(.ref a)])) rfl rfl (hb hby d15_15)
  refine Go.step (st2) ?_
  show Go _ _ _ _ _ _ _ T2 (mkF m 18 #[_, _, _, _, _] [(.ref rr)])
  refine Go.step (fun tt kk => XS.goto X2.here hx rfl (pc0 := 18) (pc' := 25) rfl (hb hby d15_18) (by decide) (by decide) kk) ?_
  show Go _ _ _ _ _ _ _ T2 (mkF m 25 #[_, _, _, _, _] [(.ref rr)])
  refine Go.step (fun tt kk => XS.astoreN X2.here hx rfl (hb hby d15_25) rfl rfl (l' := #[.val (.ref a), .val (.int (0 : Int32)), .val (.ref rr), .unset, .unset]) rfl kk) ?_
  show Go _ _ _ _ _ _ _ T2 (mkF m 26 #[_, _, _, _, _] [])
  have f3 : Fld Z h0 a "com/example/gridwright/gridwright/engine/LargeDraft" "scan" "I" (.int (Int32.ofNat (nr - (nr - k)))) := by
    have q := F_5
    rw [show nr - (nr - k) = k by omega]; exact q
  have lp0_26 : ∀ (u : Nat)  (T26_lp0_ : State) (lc26_lp0_ : List Loc) (hh26_lp0_ : Heap) (X26_lp0_ : Stand p l e ({ frames := 0, cells := 0, slots := 0, locals := 0 } : Room) s m #[(.ref a)] below meth c T26_lp0_ lc26_lp0_ 0 0) (e26_lp0_ : T26_lp0_.heap = hh26_lp0_) (N26_lp0_ : Fr n0 lc26_lp0_) (Z26_lp0_ : n0 ≤ hh26_lp0_.size) (K26_lp0_ : Keep hI hh26_lp0_ [a, rr, rc]) (f26_lp0__0 : Exa Z hh26_lp0_ a "com/example/gridwright/gridwright/engine/LargeDraft") (f26_lp0__1 : Fld Z hh26_lp0_ a "com/example/gridwright/gridwright/engine/Draft" "height" "I" (.int (Int32.ofNat H))) (f26_lp0__2 : Fld Z hh26_lp0_ a "com/example/gridwright/gridwright/engine/Draft" "taken" "J" (.long tk)) (f26_lp0__3 : Fld Z hh26_lp0_ a "com/example/gridwright/gridwright/engine/LargeDraft" "waitingRows" "[J" (.ref rr)) (f26_lp0__4 : Fld Z hh26_lp0_ a "com/example/gridwright/gridwright/engine/LargeDraft" "waitingColumns" "[J" (.ref rc)) (f26_lp0__5 : Fld Z hh26_lp0_ a "com/example/gridwright/gridwright/engine/LargeDraft" "rows" "Z" (.int (1 : Int32))) (f26_lp0__6 : Fld Z hh26_lp0_ a "com/example/gridwright/gridwright/engine/LargeDraft" "scan" "I" (.int (Int32.ofNat (nr - u)))) (f26_lp0__7 : AV Z hh26_lp0_ rr .long nr (lv F)) (f26_lp0__8 : AV Z hh26_lp0_ rc .long nc (lv G)) (hu0 : u + k ≤ nr),
      Go p e s below 0 0 (fun v h L => ∃ tk' : Int64, v = some (.int (-1 : Int32)) ∧ Fr n0 L ∧ Keep h0 h [a, rr, rc] ∧ Exa Z h a "com/example/gridwright/gridwright/engine/LargeDraft" ∧ Fld Z h a "com/example/gridwright/gridwright/engine/Draft" "height" "I" (.int (Int32.ofNat H)) ∧ Fld Z h a "com/example/gridwright/gridwright/engine/Draft" "taken" "J" (.long tk') ∧ Fld Z h a "com/example/gridwright/gridwright/engine/LargeDraft" "waitingRows" "[J" (.ref rr) ∧ Fld Z h a "com/example/gridwright/gridwright/engine/LargeDraft" "waitingColumns" "[J" (.ref rc) ∧ Fld Z h a "com/example/gridwright/gridwright/engine/LargeDraft" "rows" "Z" (.int (1 : Int32)) ∧ Fld Z h a "com/example/gridwright/gridwright/engine/LargeDraft" "scan" "I" (.int (0 : Int32)) ∧ AV Z h rr .long nr (lv F) ∧ AV Z h rc .long nc (lv G)) T26_lp0_ (mkF m 26 #[.val (.ref a), .val (.int (0 : Int32)), .val (.ref rr), .unset, .unset] []) := by
    intro u
    induction u with
    | zero =>
      intro  T26_lp0_ lc26_lp0_ hh26_lp0_ X26_lp0_ e26_lp0_ N26_lp0_ Z26_lp0_ K26_lp0_ f26_lp0__0 f26_lp0__1 f26_lp0__2 f26_lp0__3 f26_lp0__4 f26_lp0__5 f26_lp0__6 f26_lp0__7 f26_lp0__8 hu0
      show Go _ _ _ _ _ _ _ T26_lp0_ (mkF m 26 #[.val (.ref a), .val (.int (0 : Int32)), .val (.ref rr), .unset, .unset] [])
      refine Go.step (fun tt kk => XS.aloadN X26_lp0_.here hx rfl (hb hby d15_26) rfl rfl kk) ?_
      show Go _ _ _ _ _ _ _ T26_lp0_ (mkF m 27 #[_, _, _, _, _] [(.ref a)])
      obtain ⟨T4, X4, e4, st4⟩ := getF X26_lp0_ hx hZ hown (host := "") (Or.inl (hw _ (List.mem_of_getElem? (i := 108) rfl))) Via.refl e26_lp0_ f26_lp0__6 (g := (mkF m 27 #[.val (.ref a), .val (.int (0 : Int32)), .val (.ref rr), .unset, .unset] [(.ref a)])) rfl rfl (hb hby d15_27)
      refine Go.step (st4) ?_
      show Go _ _ _ _ _ _ _ T4 (mkF m 30 #[_, _, _, _, _] [(.int (Int32.ofNat nr))])
      refine Go.step (fun tt kk => XS.aloadN X4.here hx rfl (hb hby d15_30) rfl rfl kk) ?_
      show Go _ _ _ _ _ _ _ T4 (mkF m 31 #[_, _, _, _, _] [(.ref rr), (.int (Int32.ofNat nr))])
      refine Go.step (a_len X4 hx hZ e4 f26_lp0__7 (z := (Int32.ofNat nr)) (Int32.toInt_ofNat_of_lt (by omega)) (hb hby d15_31)) ?_
      show Go _ _ _ _ _ _ _ T4 (mkF m 32 #[_, _, _, _, _] [(.int (Int32.ofNat nr)), (.int (Int32.ofNat nr))])
      refine Go.step (fun tt kk => XS.icmpYes X4.here hx rfl (pc0 := 32) (pc' := 129) rfl (hb hby d15_32) rfl (flt (mt (own_lt nr nr (by omega) (by omega)).mp (Nat.lt_irrefl _))).2.1 (by decide) (by decide) kk) ?_
      show Go _ _ _ _ _ _ _ T4 (mkF m 129 #[_, _, _, _, _] [])
      refine Go.step (fun tt kk => XS.aloadN X4.here hx rfl (hb hby d15_129) rfl rfl kk) ?_
      show Go _ _ _ _ _ _ _ T4 (mkF m 130 #[_, _, _, _, _] [(.ref a)])
      refine Go.step (fun tt kk => XS.aloadN X4.here hx rfl (hb hby d15_130) rfl rfl kk) ?_
      show Go _ _ _ _ _ _ _ T4 (mkF m 131 #[_, _, _, _, _] [(.ref a), (.ref a)])
      obtain ⟨T5, X5, e5, st5⟩ := getF X4 hx hZ hown (host := "") (Or.inl (hw _ (List.mem_of_getElem? (i := 106) rfl))) Via.refl e4 f26_lp0__5 (g := (mkF m 131 #[.val (.ref a), .val (.int (0 : Int32)), .val (.ref rr), .unset, .unset] [(.ref a), (.ref a)])) rfl rfl (hb hby d15_131)
      refine Go.step (st5) ?_
      show Go _ _ _ _ _ _ _ T5 (mkF m 134 #[_, _, _, _, _] [(.int (1 : Int32)), (.ref a)])
      refine Go.step (fun tt kk => XS.ifYes X5.here hx rfl (pc0 := 134) (pc' := 141) rfl (hb hby d15_134) rfl ((if0 _ _).trans (feq (by decide)).2) (by decide) (by decide) kk) ?_
      show Go _ _ _ _ _ _ _ T5 (mkF m 141 #[_, _, _, _, _] [(.ref a)])
      refine Go.step (fun tt kk => XS.iconst X5.here hx rfl (hb hby d15_141) kk) ?_
      show Go _ _ _ _ _ _ _ T5 (mkF m 142 #[_, _, _, _, _] [(.int (0 : Int32)), (.ref a)])
      obtain ⟨T6, h6, X6, e6, W6, st6⟩ := putFN X5 hx hZ hown (hw _ (List.mem_of_getElem? (i := 106) rfl)) Via.refl e5 f26_lp0__5 f26_lp0__0 (Or.inl (hw _ (List.mem_of_getElem? (i := 107) rfl))) (hw _ (List.mem_of_getElem? (i := 2) rfl)) (ty := .boolean) (v' := (.int (0 : Int32))) (by decide) rfl rfl (g := (mkF m 142 #[.val (.ref a), .val (.int (0 : Int32)), .val (.ref rr), .unset, .unset] [(.int (0 : Int32)), (.ref a)])) rfl rfl (hb hby d15_142)
      have F6 := Fld.same W6 f26_lp0__5
      have N6 := Fr.snoc X6 N26_lp0_ g_a
      have Z6 : n0 ≤ h6.size := Nat.le_trans Z26_lp0_ (Keep.of_wr W6).1
      have K6 : Keep hI h6 [a, rr, rc] := K26_lp0_.wr W6 (Or.inl (List.mem_of_getElem? (i := 0) rfl))
      refine Go.step (st6) ?_
      show Go _ _ _ _ _ _ _ T6 (mkF m 145 #[_, _, _, _, _] [])
      refine Go.step (fun tt kk => XS.aloadN X6.here hx rfl (hb hby d15_145) rfl rfl kk) ?_
      show Go _ _ _ _ _ _ _ T6 (mkF m 146 #[_, _, _, _, _] [(.ref a)])
      refine Go.step (fun tt kk => XS.iconst X6.here hx rfl (hb hby d15_146) kk) ?_
      show Go _ _ _ _ _ _ _ T6 (mkF m 147 #[_, _, _, _, _] [(.int (0 : Int32)), (.ref a)])
      have f8 := (Fld.other W6 f26_lp0__6 (Or.inr (slot_ne (Or.inl (hw _ (List.mem_of_getElem? (i := 109) rfl))) (Or.inl (hw _ (List.mem_of_getElem? (i := 107) rfl))) (by decide) (t := .int) (t' := .boolean) (by decide) (by decide))))
      have f9 := (Exa.wr W6 f26_lp0__0)
      obtain ⟨T7, h7, X7, e7, W7, st7⟩ := putF X6 hx hZ hown (host := "") (Or.inl (hw _ (List.mem_of_getElem? (i := 108) rfl))) Via.refl e6 f8 f9 (Or.inl (hw _ (List.mem_of_getElem? (i := 109) rfl))) (hw _ (List.mem_of_getElem? (i := 2) rfl)) (ty := .int) (by decide) rfl rfl (g := (mkF m 147 #[.val (.ref a), .val (.int (0 : Int32)), .val (.ref rr), .unset, .unset] [(.int (0 : Int32)), (.ref a)])) rfl rfl (hb hby d15_147)
      have F7 := Fld.same W7 f8
      have N7 := Fr.snoc X7 N6 g_a
      have Z7 : n0 ≤ h7.size := Nat.le_trans Z6 (Keep.of_wr W7).1
      have K7 : Keep hI h7 [a, rr, rc] := K6.wr W7 (Or.inl (List.mem_of_getElem? (i := 0) rfl))
      refine Go.step (st7) ?_
      show Go _ _ _ _ _ _ _ T7 (mkF m 150 #[_, _, _, _, _] [])
      refine Go.step (fun tt kk => XS.iinc X7.here hx rfl (hb hby d15_150) rfl (l' := #[.val (.ref a), .val (.int (1 : Int32)), .val (.ref rr), .unset, .unset]) rfl kk) ?_
      show Go _ _ _ _ _ _ _ T7 (mkF m 153 #[_, _, _, _, _] [])
      show Go _ _ _ _ _ _ _ T7 (mkF m 153 #[.val (.ref a), .val (.int (1 : Int32)), .val (.ref rr), .unset, .unset] [])
      refine Go.step (fun tt kk => XS.goto X7.here hx rfl (pc0 := 153) (pc' := 2) rfl (hb hby d15_153) (by decide) (by decide) kk) ?_
      show Go _ _ _ _ _ _ _ T7 (mkF m 2 #[_, _, _, _, _] [])
      refine Go.step (fun tt kk => XS.iloadN X7.here hx rfl (hb hby d15_2) rfl kk) ?_
      show Go _ _ _ _ _ _ _ T7 (mkF m 3 #[_, _, _, _, _] [(.int (1 : Int32))])
      refine Go.step (fun tt kk => XS.iconst X7.here hx rfl (hb hby d15_3) kk) ?_
      show Go _ _ _ _ _ _ _ T7 (mkF m 4 #[_, _, _, _, _] [(.int (2 : Int32)), (.int (1 : Int32))])
      refine Go.step (fun tt kk => XS.icmpNo X7.here hx rfl (hb hby d15_4) rfl (tlt (by decide)).2.1 kk) ?_
      show Go _ _ _ _ _ _ _ T7 (mkF m 7 #[_, _, _, _, _] [])
      refine Go.step (fun tt kk => XS.aloadN X7.here hx rfl (hb hby d15_7) rfl rfl kk) ?_
      show Go _ _ _ _ _ _ _ T7 (mkF m 8 #[_, _, _, _, _] [(.ref a)])
      have f11 := (Fld.other W7 F6 (Or.inr (slot_ne (Or.inl (hw _ (List.mem_of_getElem? (i := 107) rfl))) (Or.inl (hw _ (List.mem_of_getElem? (i := 109) rfl))) (by decide) (t := .boolean) (t' := .int) (by decide) (by decide))))
      obtain ⟨T10, X10, e10, st10⟩ := getF X7 hx hZ hown (host := "") (Or.inl (hw _ (List.mem_of_getElem? (i := 106) rfl))) Via.refl e7 f11 (g := (mkF m 8 #[.val (.ref a), .val (.int (1 : Int32)), .val (.ref rr), .unset, .unset] [(.ref a)])) rfl rfl (hb hby d15_8)
      refine Go.step (st10) ?_
      show Go _ _ _ _ _ _ _ T10 (mkF m 11 #[_, _, _, _, _] [(.int (0 : Int32))])
      refine Go.step (fun tt kk => XS.ifYes X10.here hx rfl (pc0 := 11) (pc' := 21) rfl (hb hby d15_11) rfl ((if0 _ _).trans (teq (by decide)).1) (by decide) (by decide) kk) ?_
      show Go _ _ _ _ _ _ _ T10 (mkF m 21 #[_, _, _, _, _] [])
      refine Go.step (fun tt kk => XS.aloadN X10.here hx rfl (hb hby d15_21) rfl rfl kk) ?_
      show Go _ _ _ _ _ _ _ T10 (mkF m 22 #[_, _, _, _, _] [(.ref a)])
      have f13 := (Fld.other W7 (Fld.other W6 f26_lp0__4 (Or.inr (slot_ne (Or.inr (hw _ (List.mem_of_getElem? (i := 41) rfl))) (Or.inl (hw _ (List.mem_of_getElem? (i := 107) rfl))) (by decide) (t := (.array .long)) (t' := .boolean) (by decide) (by decide)))) (Or.inr (slot_ne (Or.inr (hw _ (List.mem_of_getElem? (i := 41) rfl))) (Or.inl (hw _ (List.mem_of_getElem? (i := 109) rfl))) (by decide) (t := (.array .long)) (t' := .int) (by decide) (by decide))))
      obtain ⟨T12, X12, e12, st12⟩ := getF X10 hx hZ hown (host := "") (Or.inl (hw _ (List.mem_of_getElem? (i := 40) rfl))) Via.refl e10 f13 (g := (mkF m 22 #[.val (.ref a), .val (.int (1 : Int32)), .val (.ref rr), .unset, .unset] [(.ref a)])) rfl rfl (hb hby d15_22)
      refine Go.step (st12) ?_
      show Go _ _ _ _ _ _ _ T12 (mkF m 25 #[_, _, _, _, _] [(.ref rc)])
      refine Go.step (fun tt kk => XS.astoreN X12.here hx rfl (hb hby d15_25) rfl rfl (l' := #[.val (.ref a), .val (.int (1 : Int32)), .val (.ref rc), .unset, .unset]) rfl kk) ?_
      show Go _ _ _ _ _ _ _ T12 (mkF m 26 #[_, _, _, _, _] [])
      have f14 : Fld Z h7 a "com/example/gridwright/gridwright/engine/LargeDraft" "scan" "I" (.int (Int32.ofNat (nc - (nc - 0)))) := by
        have q := F7
        rw [show nc - (nc - 0) = 0 by omega]; exact q
      have lp1_26 : ∀ (u : Nat)  (T26_lp1_ : State) (lc26_lp1_ : List Loc) (hh26_lp1_ : Heap) (X26_lp1_ : Stand p l e ({ frames := 0, cells := 0, slots := 0, locals := 0 } : Room) s m #[(.ref a)] below meth c T26_lp1_ lc26_lp1_ 0 0) (e26_lp1_ : T26_lp1_.heap = hh26_lp1_) (N26_lp1_ : Fr n0 lc26_lp1_) (Z26_lp1_ : n0 ≤ hh26_lp1_.size) (K26_lp1_ : Keep hI hh26_lp1_ [a, rr, rc]) (f26_lp1__0 : Exa Z hh26_lp1_ a "com/example/gridwright/gridwright/engine/LargeDraft") (f26_lp1__1 : Fld Z hh26_lp1_ a "com/example/gridwright/gridwright/engine/Draft" "height" "I" (.int (Int32.ofNat H))) (f26_lp1__2 : Fld Z hh26_lp1_ a "com/example/gridwright/gridwright/engine/Draft" "taken" "J" (.long tk)) (f26_lp1__3 : Fld Z hh26_lp1_ a "com/example/gridwright/gridwright/engine/LargeDraft" "waitingRows" "[J" (.ref rr)) (f26_lp1__4 : Fld Z hh26_lp1_ a "com/example/gridwright/gridwright/engine/LargeDraft" "waitingColumns" "[J" (.ref rc)) (f26_lp1__5 : Fld Z hh26_lp1_ a "com/example/gridwright/gridwright/engine/LargeDraft" "rows" "Z" (.int (0 : Int32))) (f26_lp1__6 : Fld Z hh26_lp1_ a "com/example/gridwright/gridwright/engine/LargeDraft" "scan" "I" (.int (Int32.ofNat (nc - u)))) (f26_lp1__7 : AV Z hh26_lp1_ rr .long nr (lv F)) (f26_lp1__8 : AV Z hh26_lp1_ rc .long nc (lv G)) (hu1 : u + 0 ≤ nc),
          Go p e s below 0 0 (fun v h L => ∃ tk' : Int64, v = some (.int (-1 : Int32)) ∧ Fr n0 L ∧ Keep h0 h [a, rr, rc] ∧ Exa Z h a "com/example/gridwright/gridwright/engine/LargeDraft" ∧ Fld Z h a "com/example/gridwright/gridwright/engine/Draft" "height" "I" (.int (Int32.ofNat H)) ∧ Fld Z h a "com/example/gridwright/gridwright/engine/Draft" "taken" "J" (.long tk') ∧ Fld Z h a "com/example/gridwright/gridwright/engine/LargeDraft" "waitingRows" "[J" (.ref rr) ∧ Fld Z h a "com/example/gridwright/gridwright/engine/LargeDraft" "waitingColumns" "[J" (.ref rc) ∧ Fld Z h a "com/example/gridwright/gridwright/engine/LargeDraft" "rows" "Z" (.int (1 : Int32)) ∧ Fld Z h a "com/example/gridwright/gridwright/engine/LargeDraft" "scan" "I" (.int (0 : Int32)) ∧ AV Z h rr .long nr (lv F) ∧ AV Z h rc .long nc (lv G)) T26_lp1_ (mkF m 26 #[.val (.ref a), .val (.int (1 : Int32)), .val (.ref rc), .unset, .unset] []) := by
        intro u
        induction u with
        | zero =>
          intro  T26_lp1_ lc26_lp1_ hh26_lp1_ X26_lp1_ e26_lp1_ N26_lp1_ Z26_lp1_ K26_lp1_ f26_lp1__0 f26_lp1__1 f26_lp1__2 f26_lp1__3 f26_lp1__4 f26_lp1__5 f26_lp1__6 f26_lp1__7 f26_lp1__8 hu1
          show Go _ _ _ _ _ _ _ T26_lp1_ (mkF m 26 #[.val (.ref a), .val (.int (1 : Int32)), .val (.ref rc), .unset, .unset] [])
          refine Go.step (fun tt kk => XS.aloadN X26_lp1_.here hx rfl (hb hby d15_26) rfl rfl kk) ?_
          show Go _ _ _ _ _ _ _ T26_lp1_ (mkF m 27 #[_, _, _, _, _] [(.ref a)])
          obtain ⟨T15, X15, e15, st15⟩ := getF X26_lp1_ hx hZ hown (host := "") (Or.inl (hw _ (List.mem_of_getElem? (i := 108) rfl))) Via.refl e26_lp1_ f26_lp1__6 (g := (mkF m 27 #[.val (.ref a), .val (.int (1 : Int32)), .val (.ref rc), .unset, .unset] [(.ref a)])) rfl rfl (hb hby d15_27)
          refine Go.step (st15) ?_
          show Go _ _ _ _ _ _ _ T15 (mkF m 30 #[_, _, _, _, _] [(.int (Int32.ofNat nc))])
          refine Go.step (fun tt kk => XS.aloadN X15.here hx rfl (hb hby d15_30) rfl rfl kk) ?_
          show Go _ _ _ _ _ _ _ T15 (mkF m 31 #[_, _, _, _, _] [(.ref rc), (.int (Int32.ofNat nc))])
          refine Go.step (a_len X15 hx hZ e15 f26_lp1__8 (z := (Int32.ofNat nc)) (Int32.toInt_ofNat_of_lt (by omega)) (hb hby d15_31)) ?_
          show Go _ _ _ _ _ _ _ T15 (mkF m 32 #[_, _, _, _, _] [(.int (Int32.ofNat nc)), (.int (Int32.ofNat nc))])
          refine Go.step (fun tt kk => XS.icmpYes X15.here hx rfl (pc0 := 32) (pc' := 129) rfl (hb hby d15_32) rfl (flt (mt (own_lt nc nc (by omega) (by omega)).mp (Nat.lt_irrefl _))).2.1 (by decide) (by decide) kk) ?_
          show Go _ _ _ _ _ _ _ T15 (mkF m 129 #[_, _, _, _, _] [])
          refine Go.step (fun tt kk => XS.aloadN X15.here hx rfl (hb hby d15_129) rfl rfl kk) ?_
          show Go _ _ _ _ _ _ _ T15 (mkF m 130 #[_, _, _, _, _] [(.ref a)])
          refine Go.step (fun tt kk => XS.aloadN X15.here hx rfl (hb hby d15_130) rfl rfl kk) ?_
          show Go _ _ _ _ _ _ _ T15 (mkF m 131 #[_, _, _, _, _] [(.ref a), (.ref a)])
          obtain ⟨T16, X16, e16, st16⟩ := getF X15 hx hZ hown (host := "") (Or.inl (hw _ (List.mem_of_getElem? (i := 106) rfl))) Via.refl e15 f26_lp1__5 (g := (mkF m 131 #[.val (.ref a), .val (.int (1 : Int32)), .val (.ref rc), .unset, .unset] [(.ref a), (.ref a)])) rfl rfl (hb hby d15_131)
          refine Go.step (st16) ?_
          show Go _ _ _ _ _ _ _ T16 (mkF m 134 #[_, _, _, _, _] [(.int (0 : Int32)), (.ref a)])
          refine Go.step (fun tt kk => XS.ifNo X16.here hx rfl (hb hby d15_134) rfl ((if0 _ _).trans (teq (by decide)).2) kk) ?_
          show Go _ _ _ _ _ _ _ T16 (mkF m 137 #[_, _, _, _, _] [(.ref a)])
          refine Go.step (fun tt kk => XS.iconst X16.here hx rfl (hb hby d15_137) kk) ?_
          show Go _ _ _ _ _ _ _ T16 (mkF m 138 #[_, _, _, _, _] [(.int (1 : Int32)), (.ref a)])
          refine Go.step (fun tt kk => XS.goto X16.here hx rfl (pc0 := 138) (pc' := 142) rfl (hb hby d15_138) (by decide) (by decide) kk) ?_
          show Go _ _ _ _ _ _ _ T16 (mkF m 142 #[_, _, _, _, _] [(.int (1 : Int32)), (.ref a)])
          obtain ⟨T17, h17, X17, e17, W17, st17⟩ := putFN X16 hx hZ hown (hw _ (List.mem_of_getElem? (i := 106) rfl)) Via.refl e16 f26_lp1__5 f26_lp1__0 (Or.inl (hw _ (List.mem_of_getElem? (i := 107) rfl))) (hw _ (List.mem_of_getElem? (i := 2) rfl)) (ty := .boolean) (v' := (.int (1 : Int32))) (by decide) rfl rfl (g := (mkF m 142 #[.val (.ref a), .val (.int (1 : Int32)), .val (.ref rc), .unset, .unset] [(.int (1 : Int32)), (.ref a)])) rfl rfl (hb hby d15_142)
          have F17 := Fld.same W17 f26_lp1__5
          have N17 := Fr.snoc X17 N26_lp1_ g_a
          have Z17 : n0 ≤ h17.size := Nat.le_trans Z26_lp1_ (Keep.of_wr W17).1
          have K17 : Keep hI h17 [a, rr, rc] := K26_lp1_.wr W17 (Or.inl (List.mem_of_getElem? (i := 0) rfl))
          refine Go.step (st17) ?_
          show Go _ _ _ _ _ _ _ T17 (mkF m 145 #[_, _, _, _, _] [])
          refine Go.step (fun tt kk => XS.aloadN X17.here hx rfl (hb hby d15_145) rfl rfl kk) ?_
          show Go _ _ _ _ _ _ _ T17 (mkF m 146 #[_, _, _, _, _] [(.ref a)])
          refine Go.step (fun tt kk => XS.iconst X17.here hx rfl (hb hby d15_146) kk) ?_
          show Go _ _ _ _ _ _ _ T17 (mkF m 147 #[_, _, _, _, _] [(.int (0 : Int32)), (.ref a)])
          have f19 := (Fld.other W17 f26_lp1__6 (Or.inr (slot_ne (Or.inl (hw _ (List.mem_of_getElem? (i := 109) rfl))) (Or.inl (hw _ (List.mem_of_getElem? (i := 107) rfl))) (by decide) (t := .int) (t' := .boolean) (by decide) (by decide))))
          have f20 := (Exa.wr W17 f26_lp1__0)
          obtain ⟨T18, h18, X18, e18, W18, st18⟩ := putF X17 hx hZ hown (host := "") (Or.inl (hw _ (List.mem_of_getElem? (i := 108) rfl))) Via.refl e17 f19 f20 (Or.inl (hw _ (List.mem_of_getElem? (i := 109) rfl))) (hw _ (List.mem_of_getElem? (i := 2) rfl)) (ty := .int) (by decide) rfl rfl (g := (mkF m 147 #[.val (.ref a), .val (.int (1 : Int32)), .val (.ref rc), .unset, .unset] [(.int (0 : Int32)), (.ref a)])) rfl rfl (hb hby d15_147)
          have F18 := Fld.same W18 f19
          have N18 := Fr.snoc X18 N17 g_a
          have Z18 : n0 ≤ h18.size := Nat.le_trans Z17 (Keep.of_wr W18).1
          have K18 : Keep hI h18 [a, rr, rc] := K17.wr W18 (Or.inl (List.mem_of_getElem? (i := 0) rfl))
          refine Go.step (st18) ?_
          show Go _ _ _ _ _ _ _ T18 (mkF m 150 #[_, _, _, _, _] [])
          refine Go.step (fun tt kk => XS.iinc X18.here hx rfl (hb hby d15_150) rfl (l' := #[.val (.ref a), .val (.int (2 : Int32)), .val (.ref rc), .unset, .unset]) rfl kk) ?_
          show Go _ _ _ _ _ _ _ T18 (mkF m 153 #[_, _, _, _, _] [])
          show Go _ _ _ _ _ _ _ T18 (mkF m 153 #[.val (.ref a), .val (.int (2 : Int32)), .val (.ref rc), .unset, .unset] [])
          refine Go.step (fun tt kk => XS.goto X18.here hx rfl (pc0 := 153) (pc' := 2) rfl (hb hby d15_153) (by decide) (by decide) kk) ?_
          show Go _ _ _ _ _ _ _ T18 (mkF m 2 #[_, _, _, _, _] [])
          refine Go.step (fun tt kk => XS.iloadN X18.here hx rfl (hb hby d15_2) rfl kk) ?_
          show Go _ _ _ _ _ _ _ T18 (mkF m 3 #[_, _, _, _, _] [(.int (2 : Int32))])
          refine Go.step (fun tt kk => XS.iconst X18.here hx rfl (hb hby d15_3) kk) ?_
          show Go _ _ _ _ _ _ _ T18 (mkF m 4 #[_, _, _, _, _] [(.int (2 : Int32)), (.int (2 : Int32))])
          refine Go.step (fun tt kk => XS.icmpYes X18.here hx rfl (pc0 := 4) (pc' := 156) rfl (hb hby d15_4) rfl (flt (by decide)).2.1 (by decide) (by decide) kk) ?_
          show Go _ _ _ _ _ _ _ T18 (mkF m 156 #[_, _, _, _, _] [])
          refine Go.step (fun tt kk => XS.iconst X18.here hx rfl (hb hby d15_156) kk) ?_
          show Go _ _ _ _ _ _ _ T18 (mkF m 157 #[_, _, _, _, _] [(.int (-1 : Int32))])
          have f21 := (Exa.wr W18 f20)
          have f22 := (Fld.other W18 (Fld.other W17 f26_lp1__1 (Or.inr (slot_ne (Or.inr (hw _ (List.mem_of_getElem? (i := 18) rfl))) (Or.inl (hw _ (List.mem_of_getElem? (i := 107) rfl))) (by decide) (t := .int) (t' := .boolean) (by decide) (by decide)))) (Or.inr (slot_ne (Or.inr (hw _ (List.mem_of_getElem? (i := 18) rfl))) (Or.inl (hw _ (List.mem_of_getElem? (i := 109) rfl))) (by decide) (t := .int) (t' := .int) (by decide) (by decide))))
          have f23 := (Fld.other W18 (Fld.other W17 f26_lp1__2 (Or.inr (slot_ne (Or.inl (hw _ (List.mem_of_getElem? (i := 86) rfl))) (Or.inl (hw _ (List.mem_of_getElem? (i := 107) rfl))) (by decide) (t := .long) (t' := .boolean) (by decide) (by decide)))) (Or.inr (slot_ne (Or.inl (hw _ (List.mem_of_getElem? (i := 86) rfl))) (Or.inl (hw _ (List.mem_of_getElem? (i := 109) rfl))) (by decide) (t := .long) (t' := .int) (by decide) (by decide))))
          have f24 := (Fld.other W18 (Fld.other W17 f26_lp1__3 (Or.inr (slot_ne (Or.inr (hw _ (List.mem_of_getElem? (i := 39) rfl))) (Or.inl (hw _ (List.mem_of_getElem? (i := 107) rfl))) (by decide) (t := (.array .long)) (t' := .boolean) (by decide) (by decide)))) (Or.inr (slot_ne (Or.inr (hw _ (List.mem_of_getElem? (i := 39) rfl))) (Or.inl (hw _ (List.mem_of_getElem? (i := 109) rfl))) (by decide) (t := (.array .long)) (t' := .int) (by decide) (by decide))))
          have f25 := (Fld.other W18 (Fld.other W17 f26_lp1__4 (Or.inr (slot_ne (Or.inr (hw _ (List.mem_of_getElem? (i := 41) rfl))) (Or.inl (hw _ (List.mem_of_getElem? (i := 107) rfl))) (by decide) (t := (.array .long)) (t' := .boolean) (by decide) (by decide)))) (Or.inr (slot_ne (Or.inr (hw _ (List.mem_of_getElem? (i := 41) rfl))) (Or.inl (hw _ (List.mem_of_getElem? (i := 109) rfl))) (by decide) (t := (.array .long)) (t' := .int) (by decide) (by decide))))
          have f26 := (Fld.other W18 F17 (Or.inr (slot_ne (Or.inl (hw _ (List.mem_of_getElem? (i := 107) rfl))) (Or.inl (hw _ (List.mem_of_getElem? (i := 109) rfl))) (by decide) (t := .boolean) (t' := .int) (by decide) (by decide))))
          have f27 := ((f26_lp1__7.other W17 (Ne.symm ne_a_rr)).other W18 (Ne.symm ne_a_rr))
          have f28 := ((f26_lp1__8.other W17 (Ne.symm ne_a_rc)).other W18 (Ne.symm ne_a_rc))
          refine go_retI X18 hx hret hlk (hb hby d15_157) ?_ (by decide) (by decide)
          try rw [e18]
          exact ⟨_, rfl, N18, eI ▸ K18, f21, f22, f23, f24, f25, f26, F18, f27, f28⟩
        | succ u ih =>
          intro  T26_lp1_ lc26_lp1_ hh26_lp1_ X26_lp1_ e26_lp1_ N26_lp1_ Z26_lp1_ K26_lp1_ f26_lp1__0 f26_lp1__1 f26_lp1__2 f26_lp1__3 f26_lp1__4 f26_lp1__5 f26_lp1__6 f26_lp1__7 f26_lp1__8 hu1
          show Go _ _ _ _ _ _ _ T26_lp1_ (mkF m 26 #[.val (.ref a), .val (.int (1 : Int32)), .val (.ref rc), .unset, .unset] [])
          refine Go.step (fun tt kk => XS.aloadN X26_lp1_.here hx rfl (hb hby d15_26) rfl rfl kk) ?_
          show Go _ _ _ _ _ _ _ T26_lp1_ (mkF m 27 #[_, _, _, _, _] [(.ref a)])
          obtain ⟨T29, X29, e29, st29⟩ := getF X26_lp1_ hx hZ hown (host := "") (Or.inl (hw _ (List.mem_of_getElem? (i := 108) rfl))) Via.refl e26_lp1_ f26_lp1__6 (g := (mkF m 27 #[.val (.ref a), .val (.int (1 : Int32)), .val (.ref rc), .unset, .unset] [(.ref a)])) rfl rfl (hb hby d15_27)
          refine Go.step (st29) ?_
          show Go _ _ _ _ _ _ _ T29 (mkF m 30 #[_, _, _, _, _] [(.int (Int32.ofNat (nc - (u + 1))))])
          refine Go.step (fun tt kk => XS.aloadN X29.here hx rfl (hb hby d15_30) rfl rfl kk) ?_
          show Go _ _ _ _ _ _ _ T29 (mkF m 31 #[_, _, _, _, _] [(.ref rc), (.int (Int32.ofNat (nc - (u + 1))))])
          refine Go.step (a_len X29 hx hZ e29 f26_lp1__8 (z := (Int32.ofNat nc)) (Int32.toInt_ofNat_of_lt (by omega)) (hb hby d15_31)) ?_
          show Go _ _ _ _ _ _ _ T29 (mkF m 32 #[_, _, _, _, _] [(.int (Int32.ofNat nc)), (.int (Int32.ofNat (nc - (u + 1))))])
          refine Go.step (fun tt kk => XS.icmpNo X29.here hx rfl (hb hby d15_32) rfl (tlt ((own_lt (nc - (u + 1)) nc (by omega) (by omega)).mpr (by omega))).2.1 kk) ?_
          show Go _ _ _ _ _ _ _ T29 (mkF m 35 #[_, _, _, _, _] [])
          refine Go.step (fun tt kk => XS.aloadN X29.here hx rfl (hb hby d15_35) rfl rfl kk) ?_
          show Go _ _ _ _ _ _ _ T29 (mkF m 36 #[_, _, _, _, _] [(.ref rc)])
          refine Go.step (fun tt kk => XS.aloadN X29.here hx rfl (hb hby d15_36) rfl rfl kk) ?_
          show Go _ _ _ _ _ _ _ T29 (mkF m 37 #[_, _, _, _, _] [(.ref a), (.ref rc)])
          obtain ⟨T30, X30, e30, st30⟩ := getF X29 hx hZ hown (host := "") (Or.inl (hw _ (List.mem_of_getElem? (i := 108) rfl))) Via.refl e29 f26_lp1__6 (g := (mkF m 37 #[.val (.ref a), .val (.int (1 : Int32)), .val (.ref rc), .unset, .unset] [(.ref a), (.ref rc)])) rfl rfl (hb hby d15_37)
          refine Go.step (st30) ?_
          show Go _ _ _ _ _ _ _ T30 (mkF m 40 #[_, _, _, _, _] [(.int (Int32.ofNat (nc - (u + 1)))), (.ref rc)])
          refine Go.step (a_jload X30 hx hZ e30 f26_lp1__8 (k := (nc - (u + 1))) (Int32.toInt_ofNat_of_lt (by omega)) (by omega) (x := (G (nc - (u + 1)))) rfl (hb hby d15_40)) ?_
          show Go _ _ _ _ _ _ _ T30 (mkF m 41 #[_, _, _, _, _] [(.long (G (nc - (u + 1))))])
          refine Go.step (fun tt kk => XS.lconst X30.here hx rfl (hb hby d15_41) kk) ?_
          show Go _ _ _ _ _ _ _ T30 (mkF m 42 #[_, _, _, _, _] [(.long (0 : Int64)), (.long (G (nc - (u + 1))))])
          refine Go.step (fun tt kk => XS.lcmp X30.here hx rfl (hb hby d15_42) rfl kk) ?_
          show Go _ _ _ _ _ _ _ T30 (mkF m 43 #[_, _, _, _, _] [(.int (lcmpW (G (nc - (u + 1))) (0 : Int64)))])
          refine Go.step (fun tt kk => XS.ifYes X30.here hx rfl (pc0 := 43) (pc' := 116) rfl (hb hby d15_43) rfl ((if0 _ _).trans (teq ((lw_eq _ _).mpr (hz1 (nc - (u + 1)) (by omega) (by omega)))).1) (by decide) (by decide) kk) ?_
          show Go _ _ _ _ _ _ _ T30 (mkF m 116 #[_, _, _, _, _] [])
          refine Go.step (fun tt kk => XS.aloadN X30.here hx rfl (hb hby d15_116) rfl rfl kk) ?_
          show Go _ _ _ _ _ _ _ T30 (mkF m 117 #[_, _, _, _, _] [(.ref a)])
          refine Go.step (fun tt kk => XS.dup X30.here hx rfl (hb hby d15_117) rfl rfl kk) ?_
          show Go _ _ _ _ _ _ _ T30 (mkF m 118 #[_, _, _, _, _] [(.ref a), (.ref a)])
          obtain ⟨T31, X31, e31, st31⟩ := getF X30 hx hZ hown (host := "") (Or.inl (hw _ (List.mem_of_getElem? (i := 108) rfl))) Via.refl e30 f26_lp1__6 (g := (mkF m 118 #[.val (.ref a), .val (.int (1 : Int32)), .val (.ref rc), .unset, .unset] [(.ref a), (.ref a)])) rfl rfl (hb hby d15_118)
          refine Go.step (st31) ?_
          show Go _ _ _ _ _ _ _ T31 (mkF m 121 #[_, _, _, _, _] [(.int (Int32.ofNat (nc - (u + 1)))), (.ref a)])
          refine Go.step (fun tt kk => XS.iconst X31.here hx rfl (hb hby d15_121) kk) ?_
          show Go _ _ _ _ _ _ _ T31 (mkF m 122 #[_, _, _, _, _] [(.int (1 : Int32)), (.int (Int32.ofNat (nc - (u + 1)))), (.ref a)])
          refine Go.step (fun tt kk => XS.iadd X31.here hx rfl (hb hby d15_122) rfl kk) ?_
          show Go _ _ _ _ _ _ _ T31 (mkF m 123 #[_, _, _, _, _] [(.int ((Int32.ofNat (nc - (u + 1))) + (1 : Int32))), (.ref a)])
          rw [own_up nc u (by omega)]
          show Go _ _ _ _ _ _ _ T31 (mkF m 123 #[.val (.ref a), .val (.int (1 : Int32)), .val (.ref rc), .unset, .unset] [(.int (Int32.ofNat (nc - u))), (.ref a)])
          obtain ⟨T32, h32, X32, e32, W32, st32⟩ := putF X31 hx hZ hown (host := "") (Or.inl (hw _ (List.mem_of_getElem? (i := 108) rfl))) Via.refl e31 f26_lp1__6 f26_lp1__0 (Or.inl (hw _ (List.mem_of_getElem? (i := 109) rfl))) (hw _ (List.mem_of_getElem? (i := 2) rfl)) (ty := .int) (by decide) rfl rfl (g := (mkF m 123 #[.val (.ref a), .val (.int (1 : Int32)), .val (.ref rc), .unset, .unset] [(.int (Int32.ofNat (nc - u))), (.ref a)])) rfl rfl (hb hby d15_123)
          have F32 := Fld.same W32 f26_lp1__6
          have N32 := Fr.snoc X32 N26_lp1_ g_a
          have Z32 : n0 ≤ h32.size := Nat.le_trans Z26_lp1_ (Keep.of_wr W32).1
          have K32 : Keep hI h32 [a, rr, rc] := K26_lp1_.wr W32 (Or.inl (List.mem_of_getElem? (i := 0) rfl))
          refine Go.step (st32) ?_
          show Go _ _ _ _ _ _ _ T32 (mkF m 126 #[_, _, _, _, _] [])
          refine Go.step (fun tt kk => XS.goto X32.here hx rfl (pc0 := 126) (pc' := 26) rfl (hb hby d15_126) (by decide) (by decide) kk) ?_
          show Go _ _ _ _ _ _ _ T32 (mkF m 26 #[_, _, _, _, _] [])
          have f33 := (Exa.wr W32 f26_lp1__0)
          have f34 := (Fld.other W32 f26_lp1__1 (Or.inr (slot_ne (Or.inr (hw _ (List.mem_of_getElem? (i := 18) rfl))) (Or.inl (hw _ (List.mem_of_getElem? (i := 109) rfl))) (by decide) (t := .int) (t' := .int) (by decide) (by decide))))
          have f35 := (Fld.other W32 f26_lp1__2 (Or.inr (slot_ne (Or.inl (hw _ (List.mem_of_getElem? (i := 86) rfl))) (Or.inl (hw _ (List.mem_of_getElem? (i := 109) rfl))) (by decide) (t := .long) (t' := .int) (by decide) (by decide))))
          have f36 := (Fld.other W32 f26_lp1__3 (Or.inr (slot_ne (Or.inr (hw _ (List.mem_of_getElem? (i := 39) rfl))) (Or.inl (hw _ (List.mem_of_getElem? (i := 109) rfl))) (by decide) (t := (.array .long)) (t' := .int) (by decide) (by decide))))
          have f37 := (Fld.other W32 f26_lp1__4 (Or.inr (slot_ne (Or.inr (hw _ (List.mem_of_getElem? (i := 41) rfl))) (Or.inl (hw _ (List.mem_of_getElem? (i := 109) rfl))) (by decide) (t := (.array .long)) (t' := .int) (by decide) (by decide))))
          have f38 := (Fld.other W32 f26_lp1__5 (Or.inr (slot_ne (Or.inl (hw _ (List.mem_of_getElem? (i := 107) rfl))) (Or.inl (hw _ (List.mem_of_getElem? (i := 109) rfl))) (by decide) (t := .boolean) (t' := .int) (by decide) (by decide))))
          have f39 := (f26_lp1__7.other W32 (Ne.symm ne_a_rr))
          have f40 := (f26_lp1__8.other W32 (Ne.symm ne_a_rc))
          exact ih  _ _ _ (X32.more (by decide) (by decide)) e32 N32 Z32 K32 f33 f34 f35 f36 f37 f38 F32 f39 f40 (by omega)
      have f41 := (Exa.wr W7 f9)
      have f42 := (Fld.other W7 (Fld.other W6 f26_lp0__1 (Or.inr (slot_ne (Or.inr (hw _ (List.mem_of_getElem? (i := 18) rfl))) (Or.inl (hw _ (List.mem_of_getElem? (i := 107) rfl))) (by decide) (t := .int) (t' := .boolean) (by decide) (by decide)))) (Or.inr (slot_ne (Or.inr (hw _ (List.mem_of_getElem? (i := 18) rfl))) (Or.inl (hw _ (List.mem_of_getElem? (i := 109) rfl))) (by decide) (t := .int) (t' := .int) (by decide) (by decide))))
      have f43 := (Fld.other W7 (Fld.other W6 f26_lp0__2 (Or.inr (slot_ne (Or.inl (hw _ (List.mem_of_getElem? (i := 86) rfl))) (Or.inl (hw _ (List.mem_of_getElem? (i := 107) rfl))) (by decide) (t := .long) (t' := .boolean) (by decide) (by decide)))) (Or.inr (slot_ne (Or.inl (hw _ (List.mem_of_getElem? (i := 86) rfl))) (Or.inl (hw _ (List.mem_of_getElem? (i := 109) rfl))) (by decide) (t := .long) (t' := .int) (by decide) (by decide))))
      have f44 := (Fld.other W7 (Fld.other W6 f26_lp0__3 (Or.inr (slot_ne (Or.inr (hw _ (List.mem_of_getElem? (i := 39) rfl))) (Or.inl (hw _ (List.mem_of_getElem? (i := 107) rfl))) (by decide) (t := (.array .long)) (t' := .boolean) (by decide) (by decide)))) (Or.inr (slot_ne (Or.inr (hw _ (List.mem_of_getElem? (i := 39) rfl))) (Or.inl (hw _ (List.mem_of_getElem? (i := 109) rfl))) (by decide) (t := (.array .long)) (t' := .int) (by decide) (by decide))))
      have f45 := ((f26_lp0__7.other W6 (Ne.symm ne_a_rr)).other W7 (Ne.symm ne_a_rr))
      have f46 := ((f26_lp0__8.other W6 (Ne.symm ne_a_rc)).other W7 (Ne.symm ne_a_rc))
      exact lp1_26 (nc - 0)  _ _ _ (X12.more (by decide) (by decide)) e12 N7 Z7 K7 f41 f42 f43 f44 f13 f11 f14 f45 f46 (by omega)
    | succ u ih =>
      intro  T26_lp0_ lc26_lp0_ hh26_lp0_ X26_lp0_ e26_lp0_ N26_lp0_ Z26_lp0_ K26_lp0_ f26_lp0__0 f26_lp0__1 f26_lp0__2 f26_lp0__3 f26_lp0__4 f26_lp0__5 f26_lp0__6 f26_lp0__7 f26_lp0__8 hu0
      show Go _ _ _ _ _ _ _ T26_lp0_ (mkF m 26 #[.val (.ref a), .val (.int (0 : Int32)), .val (.ref rr), .unset, .unset] [])
      refine Go.step (fun tt kk => XS.aloadN X26_lp0_.here hx rfl (hb hby d15_26) rfl rfl kk) ?_
      show Go _ _ _ _ _ _ _ T26_lp0_ (mkF m 27 #[_, _, _, _, _] [(.ref a)])
      obtain ⟨T47, X47, e47, st47⟩ := getF X26_lp0_ hx hZ hown (host := "") (Or.inl (hw _ (List.mem_of_getElem? (i := 108) rfl))) Via.refl e26_lp0_ f26_lp0__6 (g := (mkF m 27 #[.val (.ref a), .val (.int (0 : Int32)), .val (.ref rr), .unset, .unset] [(.ref a)])) rfl rfl (hb hby d15_27)
      refine Go.step (st47) ?_
      show Go _ _ _ _ _ _ _ T47 (mkF m 30 #[_, _, _, _, _] [(.int (Int32.ofNat (nr - (u + 1))))])
      refine Go.step (fun tt kk => XS.aloadN X47.here hx rfl (hb hby d15_30) rfl rfl kk) ?_
      show Go _ _ _ _ _ _ _ T47 (mkF m 31 #[_, _, _, _, _] [(.ref rr), (.int (Int32.ofNat (nr - (u + 1))))])
      refine Go.step (a_len X47 hx hZ e47 f26_lp0__7 (z := (Int32.ofNat nr)) (Int32.toInt_ofNat_of_lt (by omega)) (hb hby d15_31)) ?_
      show Go _ _ _ _ _ _ _ T47 (mkF m 32 #[_, _, _, _, _] [(.int (Int32.ofNat nr)), (.int (Int32.ofNat (nr - (u + 1))))])
      refine Go.step (fun tt kk => XS.icmpNo X47.here hx rfl (hb hby d15_32) rfl (tlt ((own_lt (nr - (u + 1)) nr (by omega) (by omega)).mpr (by omega))).2.1 kk) ?_
      show Go _ _ _ _ _ _ _ T47 (mkF m 35 #[_, _, _, _, _] [])
      refine Go.step (fun tt kk => XS.aloadN X47.here hx rfl (hb hby d15_35) rfl rfl kk) ?_
      show Go _ _ _ _ _ _ _ T47 (mkF m 36 #[_, _, _, _, _] [(.ref rr)])
      refine Go.step (fun tt kk => XS.aloadN X47.here hx rfl (hb hby d15_36) rfl rfl kk) ?_
      show Go _ _ _ _ _ _ _ T47 (mkF m 37 #[_, _, _, _, _] [(.ref a), (.ref rr)])
      obtain ⟨T48, X48, e48, st48⟩ := getF X47 hx hZ hown (host := "") (Or.inl (hw _ (List.mem_of_getElem? (i := 108) rfl))) Via.refl e47 f26_lp0__6 (g := (mkF m 37 #[.val (.ref a), .val (.int (0 : Int32)), .val (.ref rr), .unset, .unset] [(.ref a), (.ref rr)])) rfl rfl (hb hby d15_37)
      refine Go.step (st48) ?_
      show Go _ _ _ _ _ _ _ T48 (mkF m 40 #[_, _, _, _, _] [(.int (Int32.ofNat (nr - (u + 1)))), (.ref rr)])
      refine Go.step (a_jload X48 hx hZ e48 f26_lp0__7 (k := (nr - (u + 1))) (Int32.toInt_ofNat_of_lt (by omega)) (by omega) (x := (F (nr - (u + 1)))) rfl (hb hby d15_40)) ?_
      show Go _ _ _ _ _ _ _ T48 (mkF m 41 #[_, _, _, _, _] [(.long (F (nr - (u + 1))))])
      refine Go.step (fun tt kk => XS.lconst X48.here hx rfl (hb hby d15_41) kk) ?_
      show Go _ _ _ _ _ _ _ T48 (mkF m 42 #[_, _, _, _, _] [(.long (0 : Int64)), (.long (F (nr - (u + 1))))])
      refine Go.step (fun tt kk => XS.lcmp X48.here hx rfl (hb hby d15_42) rfl kk) ?_
      show Go _ _ _ _ _ _ _ T48 (mkF m 43 #[_, _, _, _, _] [(.int (lcmpW (F (nr - (u + 1))) (0 : Int64)))])
      refine Go.step (fun tt kk => XS.ifYes X48.here hx rfl (pc0 := 43) (pc' := 116) rfl (hb hby d15_43) rfl ((if0 _ _).trans (teq ((lw_eq _ _).mpr (hz0 (nr - (u + 1)) (by omega) (by omega)))).1) (by decide) (by decide) kk) ?_
      show Go _ _ _ _ _ _ _ T48 (mkF m 116 #[_, _, _, _, _] [])
      refine Go.step (fun tt kk => XS.aloadN X48.here hx rfl (hb hby d15_116) rfl rfl kk) ?_
      show Go _ _ _ _ _ _ _ T48 (mkF m 117 #[_, _, _, _, _] [(.ref a)])
      refine Go.step (fun tt kk => XS.dup X48.here hx rfl (hb hby d15_117) rfl rfl kk) ?_
      show Go _ _ _ _ _ _ _ T48 (mkF m 118 #[_, _, _, _, _] [(.ref a), (.ref a)])
      obtain ⟨T49, X49, e49, st49⟩ := getF X48 hx hZ hown (host := "") (Or.inl (hw _ (List.mem_of_getElem? (i := 108) rfl))) Via.refl e48 f26_lp0__6 (g := (mkF m 118 #[.val (.ref a), .val (.int (0 : Int32)), .val (.ref rr), .unset, .unset] [(.ref a), (.ref a)])) rfl rfl (hb hby d15_118)
      refine Go.step (st49) ?_
      show Go _ _ _ _ _ _ _ T49 (mkF m 121 #[_, _, _, _, _] [(.int (Int32.ofNat (nr - (u + 1)))), (.ref a)])
      refine Go.step (fun tt kk => XS.iconst X49.here hx rfl (hb hby d15_121) kk) ?_
      show Go _ _ _ _ _ _ _ T49 (mkF m 122 #[_, _, _, _, _] [(.int (1 : Int32)), (.int (Int32.ofNat (nr - (u + 1)))), (.ref a)])
      refine Go.step (fun tt kk => XS.iadd X49.here hx rfl (hb hby d15_122) rfl kk) ?_
      show Go _ _ _ _ _ _ _ T49 (mkF m 123 #[_, _, _, _, _] [(.int ((Int32.ofNat (nr - (u + 1))) + (1 : Int32))), (.ref a)])
      rw [own_up nr u (by omega)]
      show Go _ _ _ _ _ _ _ T49 (mkF m 123 #[.val (.ref a), .val (.int (0 : Int32)), .val (.ref rr), .unset, .unset] [(.int (Int32.ofNat (nr - u))), (.ref a)])
      obtain ⟨T50, h50, X50, e50, W50, st50⟩ := putF X49 hx hZ hown (host := "") (Or.inl (hw _ (List.mem_of_getElem? (i := 108) rfl))) Via.refl e49 f26_lp0__6 f26_lp0__0 (Or.inl (hw _ (List.mem_of_getElem? (i := 109) rfl))) (hw _ (List.mem_of_getElem? (i := 2) rfl)) (ty := .int) (by decide) rfl rfl (g := (mkF m 123 #[.val (.ref a), .val (.int (0 : Int32)), .val (.ref rr), .unset, .unset] [(.int (Int32.ofNat (nr - u))), (.ref a)])) rfl rfl (hb hby d15_123)
      have F50 := Fld.same W50 f26_lp0__6
      have N50 := Fr.snoc X50 N26_lp0_ g_a
      have Z50 : n0 ≤ h50.size := Nat.le_trans Z26_lp0_ (Keep.of_wr W50).1
      have K50 : Keep hI h50 [a, rr, rc] := K26_lp0_.wr W50 (Or.inl (List.mem_of_getElem? (i := 0) rfl))
      refine Go.step (st50) ?_
      show Go _ _ _ _ _ _ _ T50 (mkF m 126 #[_, _, _, _, _] [])
      refine Go.step (fun tt kk => XS.goto X50.here hx rfl (pc0 := 126) (pc' := 26) rfl (hb hby d15_126) (by decide) (by decide) kk) ?_
      show Go _ _ _ _ _ _ _ T50 (mkF m 26 #[_, _, _, _, _] [])
      have f51 := (Exa.wr W50 f26_lp0__0)
      have f52 := (Fld.other W50 f26_lp0__1 (Or.inr (slot_ne (Or.inr (hw _ (List.mem_of_getElem? (i := 18) rfl))) (Or.inl (hw _ (List.mem_of_getElem? (i := 109) rfl))) (by decide) (t := .int) (t' := .int) (by decide) (by decide))))
      have f53 := (Fld.other W50 f26_lp0__2 (Or.inr (slot_ne (Or.inl (hw _ (List.mem_of_getElem? (i := 86) rfl))) (Or.inl (hw _ (List.mem_of_getElem? (i := 109) rfl))) (by decide) (t := .long) (t' := .int) (by decide) (by decide))))
      have f54 := (Fld.other W50 f26_lp0__3 (Or.inr (slot_ne (Or.inr (hw _ (List.mem_of_getElem? (i := 39) rfl))) (Or.inl (hw _ (List.mem_of_getElem? (i := 109) rfl))) (by decide) (t := (.array .long)) (t' := .int) (by decide) (by decide))))
      have f55 := (Fld.other W50 f26_lp0__4 (Or.inr (slot_ne (Or.inr (hw _ (List.mem_of_getElem? (i := 41) rfl))) (Or.inl (hw _ (List.mem_of_getElem? (i := 109) rfl))) (by decide) (t := (.array .long)) (t' := .int) (by decide) (by decide))))
      have f56 := (Fld.other W50 f26_lp0__5 (Or.inr (slot_ne (Or.inl (hw _ (List.mem_of_getElem? (i := 107) rfl))) (Or.inl (hw _ (List.mem_of_getElem? (i := 109) rfl))) (by decide) (t := .boolean) (t' := .int) (by decide) (by decide))))
      have f57 := (f26_lp0__7.other W50 (Ne.symm ne_a_rr))
      have f58 := (f26_lp0__8.other W50 (Ne.symm ne_a_rc))
      exact ih  _ _ _ (X50.more (by decide) (by decide)) e50 N50 Z50 K50 f51 f52 f53 f54 f55 f56 F50 f57 f58 (by omega)
  exact lp0_26 (nr - k)  _ _ _ (X2.more (by decide) (by decide)) e2 N0 Z0 K0 E_a F_0 F_1 F_2 F_3 F_4 f3 V_rr V_rc (by omega)
theorem ef_rmNn0 (m : MethodId) (x0 : Addr) : entryFrame m #[(.ref x0)] 5 = mkF m 0 #[.val (.ref x0), .unset, .unset, .unset, .unset] [] := by first | (simp [entryFrame, mkF, argsToLocals, Value.category]; done) | rfl
set_option maxRecDepth 65536 in
set_option maxHeartbeats 40000000 in
theorem rmNn0 (l : Launch) (Z : State) (a0 : Array Value) (hw : ∀ d ∈ tables_1, d.before a0 Z = true) (ws : List Jvm.Cond) (a rr rc : Addr) (H nr nc k K : Nat) (tk : Int64) (F G : Nat → Int64) (h0 : Heap) (n0 : Nat) (Z0 : n0 ≤ h0.size) (E_a : Exa Z h0 a "com/example/gridwright/gridwright/engine/LargeDraft") (F_0 : Fld Z h0 a "com/example/gridwright/gridwright/engine/Draft" "height" "I" (.int (Int32.ofNat H))) (F_1 : Fld Z h0 a "com/example/gridwright/gridwright/engine/Draft" "taken" "J" (.long tk)) (F_2 : Fld Z h0 a "com/example/gridwright/gridwright/engine/LargeDraft" "waitingRows" "[J" (.ref rr)) (F_3 : Fld Z h0 a "com/example/gridwright/gridwright/engine/LargeDraft" "waitingColumns" "[J" (.ref rc)) (F_4 : Fld Z h0 a "com/example/gridwright/gridwright/engine/LargeDraft" "rows" "Z" (.int (0 : Int32))) (F_5 : Fld Z h0 a "com/example/gridwright/gridwright/engine/LargeDraft" "scan" "I" (.int (Int32.ofNat k))) (V_rr : AV Z h0 rr .long nr (lv F)) (V_rc : AV Z h0 rc .long nc (lv G)) (g_a : n0 ≤ a) (g_rr : n0 ≤ rr) (g_rc : n0 ≤ rc) (ne_a_rr : a ≠ rr) (ne_a_rc : a ≠ rc) (ne_rr_rc : rr ≠ rc) (hnr : nr ≤ 2) (hnc : nc ≤ 2) (hk : k ≤ nc) (hz0 : ∀ j, k ≤ j → j < nc → G j = 0) (hz1 : ∀ j, 0 ≤ j → j < nr → F j = 0) :
    Ctr l Z (⟨"com/example/gridwright/gridwright/engine/LargeDraft", "next", "()I"⟩ : MethodName) prog_61_method_7_code 5 (some .int) ws ({ frames := 0, cells := 0, slots := 0, locals := 0 } : Room) 0 0 #[(.ref a)] h0 (fun v h L => ∃ tk' : Int64, v = some (.int (-1 : Int32)) ∧ Fr n0 L ∧ Keep h0 h [a, rr, rc] ∧ Exa Z h a "com/example/gridwright/gridwright/engine/LargeDraft" ∧ Fld Z h a "com/example/gridwright/gridwright/engine/Draft" "height" "I" (.int (Int32.ofNat H)) ∧ Fld Z h a "com/example/gridwright/gridwright/engine/Draft" "taken" "J" (.long tk') ∧ Fld Z h a "com/example/gridwright/gridwright/engine/LargeDraft" "waitingRows" "[J" (.ref rr) ∧ Fld Z h a "com/example/gridwright/gridwright/engine/LargeDraft" "waitingColumns" "[J" (.ref rc) ∧ Fld Z h a "com/example/gridwright/gridwright/engine/LargeDraft" "rows" "Z" (.int (0 : Int32)) ∧ Fld Z h a "com/example/gridwright/gridwright/engine/LargeDraft" "scan" "I" (.int (0 : Int32)) ∧ AV Z h rr .long nr (lv F) ∧ AV Z h rc .long nc (lv G)) := by
  refine Ctr.mk (plainFor_of_name pn_4) fun p e s m below meth c T0 X0 C e0 => go_cast (ef_rmNn0 m a) ?_
  have N0 := Fr.nil n0
  obtain ⟨hx, hZ, hby, hml, hown, hnm, hret, hlk⟩ := C
  obtain ⟨hI, eI⟩ : ∃ z, z = h0 := ⟨_, rfl⟩
  have K0 : Keep hI h0 [a, rr, rc] := by rw [eI]; exact Keep.refl _ _
  show Go _ _ _ _ _ _ _ T0 (mkF m 0 #[.val (.ref a), .unset, .unset, .unset, .unset] [])
  refine Go.step (fun tt kk => XS.iconst X0.here hx rfl (hb hby d15_0) kk) ?_
  show Go _ _ _ _ _ _ _ T0 (mkF m 1 #[_, _, _, _, _] [(.int (0 : Int32))])
  refine Go.step (fun tt kk => XS.istoreN X0.here hx rfl (hb hby d15_1) rfl (l' := #[.val (.ref a), .val (.int (0 : Int32)), .unset, .unset, .unset]) rfl kk) ?_
  show Go _ _ _ _ _ _ _ T0 (mkF m 2 #[_, _, _, _, _] [])
  refine Go.step (fun tt kk => XS.iloadN X0.here hx rfl (hb hby d15_2) rfl kk) ?_
  show Go _ _ _ _ _ _ _ T0 (mkF m 3 #[_, _, _, _, _] [(.int (0 : Int32))])
  refine Go.step (fun tt kk => XS.iconst X0.here hx rfl (hb hby d15_3) kk) ?_
  show Go _ _ _ _ _ _ _ T0 (mkF m 4 #[_, _, _, _, _] [(.int (2 : Int32)), (.int (0 : Int32))])
  refine Go.step (fun tt kk => XS.icmpNo X0.here hx rfl (hb hby d15_4) rfl (tlt (by decide)).2.1 kk) ?_
  show Go _ _ _ _ _ _ _ T0 (mkF m 7 #[_, _, _, _, _] [])
  refine Go.step (fun tt kk => XS.aloadN X0.here hx rfl (hb hby d15_7) rfl rfl kk) ?_
  show Go _ _ _ _ _ _ _ T0 (mkF m 8 #[_, _, _, _, _] [(.ref a)])
  obtain ⟨T1, X1, e1, st1⟩ := getF X0 hx hZ hown (host := "") (Or.inl (hw _ (List.mem_of_getElem? (i := 106) rfl))) Via.refl e0 F_4 (g := (mkF m 8 #[.val (.ref a), .val (.int (0 : Int32)), .unset, .unset, .unset] [(.ref a)])) rfl rfl (hb hby d15_8)
  refine Go.step (st1) ?_
  show Go _ _ _ _ _ _ _ T1 (mkF m 11 #[_, _, _, _, _] [(.int (0 : Int32))])
  refine Go.step (fun tt kk => XS.ifYes X1.here hx rfl (pc0 := 11) (pc' := 21) rfl (hb hby d15_11) rfl ((if0 _ _).trans (teq (by decide)).1) (by decide) (by decide) kk) ?_
  show Go _ _ _ _ _ _ _ T1 (mkF m 21 #[_, _, _, _, _] [])
  refine Go.step (fun tt kk => XS.aloadN X1.here hx rfl (hb hby d15_21) rfl rfl kk) ?_
  show Go _ _ _ _ _ _ _ T1 (mkF m 22 #[_, _, _, _, _] [(.ref a)])
  obtain ⟨T2, X2, e2, st2⟩ := getF X1 hx hZ hown (host := "") (Or.inl (hw _ (List.mem_of_getElem? (i := 40) rfl))) Via.refl e1 F_3 (g := (mkF m 22 #[.val (.ref a), .val (.int (0 : Int32)), .unset, .unset, .unset] [(.ref a)])) rfl rfl (hb hby d15_22)
  refine Go.step (st2) ?_
  show Go _ _ _ _ _ _ _ T2 (mkF m 25 #[_, _, _, _, _] [(.ref rc)])
  refine Go.step (fun tt kk => XS.astoreN X2.here hx rfl (hb hby d15_25) rfl rfl (l' := #[.val (.ref a), .val (.int (0 : Int32)), .val (.ref rc), .unset, .unset]) rfl kk) ?_
  show Go _ _ _ _ _ _ _ T2 (mkF m 26 #[_, _, _, _, _] [])
  have f3 : Fld Z h0 a "com/example/gridwright/gridwright/engine/LargeDraft" "scan" "I" (.int (Int32.ofNat (nc - (nc - k)))) := by
    have q := F_5
    rw [show nc - (nc - k) = k by omega]; exact q
  have lp0_26 : ∀ (u : Nat)  (T26_lp0_ : State) (lc26_lp0_ : List Loc) (hh26_lp0_ : Heap) (X26_lp0_ : Stand p l e ({ frames := 0, cells := 0, slots := 0, locals := 0 } : Room) s m #[(.ref a)] below meth c T26_lp0_ lc26_lp0_ 0 0) (e26_lp0_ : T26_lp0_.heap = hh26_lp0_) (N26_lp0_ : Fr n0 lc26_lp0_) (Z26_lp0_ : n0 ≤ hh26_lp0_.size) (K26_lp0_ : Keep hI hh26_lp0_ [a, rr, rc]) (f26_lp0__0 : Exa Z hh26_lp0_ a "com/example/gridwright/gridwright/engine/LargeDraft") (f26_lp0__1 : Fld Z hh26_lp0_ a "com/example/gridwright/gridwright/engine/Draft" "height" "I" (.int (Int32.ofNat H))) (f26_lp0__2 : Fld Z hh26_lp0_ a "com/example/gridwright/gridwright/engine/Draft" "taken" "J" (.long tk)) (f26_lp0__3 : Fld Z hh26_lp0_ a "com/example/gridwright/gridwright/engine/LargeDraft" "waitingRows" "[J" (.ref rr)) (f26_lp0__4 : Fld Z hh26_lp0_ a "com/example/gridwright/gridwright/engine/LargeDraft" "waitingColumns" "[J" (.ref rc)) (f26_lp0__5 : Fld Z hh26_lp0_ a "com/example/gridwright/gridwright/engine/LargeDraft" "rows" "Z" (.int (0 : Int32))) (f26_lp0__6 : Fld Z hh26_lp0_ a "com/example/gridwright/gridwright/engine/LargeDraft" "scan" "I" (.int (Int32.ofNat (nc - u)))) (f26_lp0__7 : AV Z hh26_lp0_ rr .long nr (lv F)) (f26_lp0__8 : AV Z hh26_lp0_ rc .long nc (lv G)) (hu0 : u + k ≤ nc),
      Go p e s below 0 0 (fun v h L => ∃ tk' : Int64, v = some (.int (-1 : Int32)) ∧ Fr n0 L ∧ Keep h0 h [a, rr, rc] ∧ Exa Z h a "com/example/gridwright/gridwright/engine/LargeDraft" ∧ Fld Z h a "com/example/gridwright/gridwright/engine/Draft" "height" "I" (.int (Int32.ofNat H)) ∧ Fld Z h a "com/example/gridwright/gridwright/engine/Draft" "taken" "J" (.long tk') ∧ Fld Z h a "com/example/gridwright/gridwright/engine/LargeDraft" "waitingRows" "[J" (.ref rr) ∧ Fld Z h a "com/example/gridwright/gridwright/engine/LargeDraft" "waitingColumns" "[J" (.ref rc) ∧ Fld Z h a "com/example/gridwright/gridwright/engine/LargeDraft" "rows" "Z" (.int (0 : Int32)) ∧ Fld Z h a "com/example/gridwright/gridwright/engine/LargeDraft" "scan" "I" (.int (0 : Int32)) ∧ AV Z h rr .long nr (lv F) ∧ AV Z h rc .long nc (lv G)) T26_lp0_ (mkF m 26 #[.val (.ref a), .val (.int (0 : Int32)), .val (.ref rc), .unset, .unset] []) := by
    intro u
    induction u with
    | zero =>
      intro  T26_lp0_ lc26_lp0_ hh26_lp0_ X26_lp0_ e26_lp0_ N26_lp0_ Z26_lp0_ K26_lp0_ f26_lp0__0 f26_lp0__1 f26_lp0__2 f26_lp0__3 f26_lp0__4 f26_lp0__5 f26_lp0__6 f26_lp0__7 f26_lp0__8 hu0
      show Go _ _ _ _ _ _ _ T26_lp0_ (mkF m 26 #[.val (.ref a), .val (.int (0 : Int32)), .val (.ref rc), .unset, .unset] [])
      refine Go.step (fun tt kk => XS.aloadN X26_lp0_.here hx rfl (hb hby d15_26) rfl rfl kk) ?_
      show Go _ _ _ _ _ _ _ T26_lp0_ (mkF m 27 #[_, _, _, _, _] [(.ref a)])
      obtain ⟨T4, X4, e4, st4⟩ := getF X26_lp0_ hx hZ hown (host := "") (Or.inl (hw _ (List.mem_of_getElem? (i := 108) rfl))) Via.refl e26_lp0_ f26_lp0__6 (g := (mkF m 27 #[.val (.ref a), .val (.int (0 : Int32)), .val (.ref rc), .unset, .unset] [(.ref a)])) rfl rfl (hb hby d15_27)
      refine Go.step (st4) ?_
      show Go _ _ _ _ _ _ _ T4 (mkF m 30 #[_, _, _, _, _] [(.int (Int32.ofNat nc))])
      refine Go.step (fun tt kk => XS.aloadN X4.here hx rfl (hb hby d15_30) rfl rfl kk) ?_
      show Go _ _ _ _ _ _ _ T4 (mkF m 31 #[_, _, _, _, _] [(.ref rc), (.int (Int32.ofNat nc))])
      refine Go.step (a_len X4 hx hZ e4 f26_lp0__8 (z := (Int32.ofNat nc)) (Int32.toInt_ofNat_of_lt (by omega)) (hb hby d15_31)) ?_
      show Go _ _ _ _ _ _ _ T4 (mkF m 32 #[_, _, _, _, _] [(.int (Int32.ofNat nc)), (.int (Int32.ofNat nc))])
      refine Go.step (fun tt kk => XS.icmpYes X4.here hx rfl (pc0 := 32) (pc' := 129) rfl (hb hby d15_32) rfl (flt (mt (own_lt nc nc (by omega) (by omega)).mp (Nat.lt_irrefl _))).2.1 (by decide) (by decide) kk) ?_
      show Go _ _ _ _ _ _ _ T4 (mkF m 129 #[_, _, _, _, _] [])
      refine Go.step (fun tt kk => XS.aloadN X4.here hx rfl (hb hby d15_129) rfl rfl kk) ?_
      show Go _ _ _ _ _ _ _ T4 (mkF m 130 #[_, _, _, _, _] [(.ref a)])
      refine Go.step (fun tt kk => XS.aloadN X4.here hx rfl (hb hby d15_130) rfl rfl kk) ?_
      show Go _ _ _ _ _ _ _ T4 (mkF m 131 #[_, _, _, _, _] [(.ref a), (.ref a)])
      obtain ⟨T5, X5, e5, st5⟩ := getF X4 hx hZ hown (host := "") (Or.inl (hw _ (List.mem_of_getElem? (i := 106) rfl))) Via.refl e4 f26_lp0__5 (g := (mkF m 131 #[.val (.ref a), .val (.int (0 : Int32)), .val (.ref rc), .unset, .unset] [(.ref a), (.ref a)])) rfl rfl (hb hby d15_131)
      refine Go.step (st5) ?_
      show Go _ _ _ _ _ _ _ T5 (mkF m 134 #[_, _, _, _, _] [(.int (0 : Int32)), (.ref a)])
      refine Go.step (fun tt kk => XS.ifNo X5.here hx rfl (hb hby d15_134) rfl ((if0 _ _).trans (teq (by decide)).2) kk) ?_
      show Go _ _ _ _ _ _ _ T5 (mkF m 137 #[_, _, _, _, _] [(.ref a)])
      refine Go.step (fun tt kk => XS.iconst X5.here hx rfl (hb hby d15_137) kk) ?_
      show Go _ _ _ _ _ _ _ T5 (mkF m 138 #[_, _, _, _, _] [(.int (1 : Int32)), (.ref a)])
      refine Go.step (fun tt kk => XS.goto X5.here hx rfl (pc0 := 138) (pc' := 142) rfl (hb hby d15_138) (by decide) (by decide) kk) ?_
      show Go _ _ _ _ _ _ _ T5 (mkF m 142 #[_, _, _, _, _] [(.int (1 : Int32)), (.ref a)])
      obtain ⟨T6, h6, X6, e6, W6, st6⟩ := putFN X5 hx hZ hown (hw _ (List.mem_of_getElem? (i := 106) rfl)) Via.refl e5 f26_lp0__5 f26_lp0__0 (Or.inl (hw _ (List.mem_of_getElem? (i := 107) rfl))) (hw _ (List.mem_of_getElem? (i := 2) rfl)) (ty := .boolean) (v' := (.int (1 : Int32))) (by decide) rfl rfl (g := (mkF m 142 #[.val (.ref a), .val (.int (0 : Int32)), .val (.ref rc), .unset, .unset] [(.int (1 : Int32)), (.ref a)])) rfl rfl (hb hby d15_142)
      have F6 := Fld.same W6 f26_lp0__5
      have N6 := Fr.snoc X6 N26_lp0_ g_a
      have Z6 : n0 ≤ h6.size := Nat.le_trans Z26_lp0_ (Keep.of_wr W6).1
      have K6 : Keep hI h6 [a, rr, rc] := K26_lp0_.wr W6 (Or.inl (List.mem_of_getElem? (i := 0) rfl))
      refine Go.step (st6) ?_
      show Go _ _ _ _ _ _ _ T6 (mkF m 145 #[_, _, _, _, _] [])
      refine Go.step (fun tt kk => XS.aloadN X6.here hx rfl (hb hby d15_145) rfl rfl kk) ?_
      show Go _ _ _ _ _ _ _ T6 (mkF m 146 #[_, _, _, _, _] [(.ref a)])
      refine Go.step (fun tt kk => XS.iconst X6.here hx rfl (hb hby d15_146) kk) ?_
      show Go _ _ _ _ _ _ _ T6 (mkF m 147 #[_, _, _, _, _] [(.int (0 : Int32)), (.ref a)])
      have f8 := (Fld.other W6 f26_lp0__6 (Or.inr (slot_ne (Or.inl (hw _ (List.mem_of_getElem? (i := 109) rfl))) (Or.inl (hw _ (List.mem_of_getElem? (i := 107) rfl))) (by decide) (t := .int) (t' := .boolean) (by decide) (by decide))))
      have f9 := (Exa.wr W6 f26_lp0__0)
      obtain ⟨T7, h7, X7, e7, W7, st7⟩ := putF X6 hx hZ hown (host := "") (Or.inl (hw _ (List.mem_of_getElem? (i := 108) rfl))) Via.refl e6 f8 f9 (Or.inl (hw _ (List.mem_of_getElem? (i := 109) rfl))) (hw _ (List.mem_of_getElem? (i := 2) rfl)) (ty := .int) (by decide) rfl rfl (g := (mkF m 147 #[.val (.ref a), .val (.int (0 : Int32)), .val (.ref rc), .unset, .unset] [(.int (0 : Int32)), (.ref a)])) rfl rfl (hb hby d15_147)
      have F7 := Fld.same W7 f8
      have N7 := Fr.snoc X7 N6 g_a
      have Z7 : n0 ≤ h7.size := Nat.le_trans Z6 (Keep.of_wr W7).1
      have K7 : Keep hI h7 [a, rr, rc] := K6.wr W7 (Or.inl (List.mem_of_getElem? (i := 0) rfl))
      refine Go.step (st7) ?_
      show Go _ _ _ _ _ _ _ T7 (mkF m 150 #[_, _, _, _, _] [])
      refine Go.step (fun tt kk => XS.iinc X7.here hx rfl (hb hby d15_150) rfl (l' := #[.val (.ref a), .val (.int (1 : Int32)), .val (.ref rc), .unset, .unset]) rfl kk) ?_
      show Go _ _ _ _ _ _ _ T7 (mkF m 153 #[_, _, _, _, _] [])
      show Go _ _ _ _ _ _ _ T7 (mkF m 153 #[.val (.ref a), .val (.int (1 : Int32)), .val (.ref rc), .unset, .unset] [])
      refine Go.step (fun tt kk => XS.goto X7.here hx rfl (pc0 := 153) (pc' := 2) rfl (hb hby d15_153) (by decide) (by decide) kk) ?_
      show Go _ _ _ _ _ _ _ T7 (mkF m 2 #[_, _, _, _, _] [])
      refine Go.step (fun tt kk => XS.iloadN X7.here hx rfl (hb hby d15_2) rfl kk) ?_
      show Go _ _ _ _ _ _ _ T7 (mkF m 3 #[_, _, _, _, _] [(.int (1 : Int32))])
      refine Go.step (fun tt kk => XS.iconst X7.here hx rfl (hb hby d15_3) kk) ?_
      show Go _ _ _ _ _ _ _ T7 (mkF m 4 #[_, _, _, _, _] [(.int (2 : Int32)), (.int (1 : Int32))])
      refine Go.step (fun tt kk => XS.icmpNo X7.here hx rfl (hb hby d15_4) rfl (tlt (by decide)).2.1 kk) ?_
      show Go _ _ _ _ _ _ _ T7 (mkF m 7 #[_, _, _, _, _] [])
      refine Go.step (fun tt kk => XS.aloadN X7.here hx rfl (hb hby d15_7) rfl rfl kk) ?_
      show Go _ _ _ _ _ _ _ T7 (mkF m 8 #[_, _, _, _, _] [(.ref a)])
      have f11 := (Fld.other W7 F6 (Or.inr (slot_ne (Or.inl (hw _ (List.mem_of_getElem? (i := 107) rfl))) (Or.inl (hw _ (List.mem_of_getElem? (i := 109) rfl))) (by decide) (t := .boolean) (t' := .int) (by decide) (by decide))))
      obtain ⟨T10, X10, e10, st10⟩ := getF X7 hx hZ hown (host := "") (Or.inl (hw _ (List.mem_of_getElem? (i := 106) rfl))) Via.refl e7 f11 (g := (mkF m 8 #[.val (.ref a), .val (.int (1 : Int32)), .val (.ref rc), .unset, .unset] [(.ref a)])) rfl rfl (hb hby d15_8)
      refine Go.step (st10) ?_
      show Go _ _ _ _ _ _ _ T10 (mkF m 11 #[_, _, _, _, _] [(.int (1 : Int32))])
      refine Go.step (fun tt kk => XS.ifNo X10.here hx rfl (hb hby d15_11) rfl ((if0 _ _).trans (feq (by decide)).1) kk) ?_
      show Go _ _ _ _ _ _ _ T10 (mkF m 14 #[_, _, _, _, _] [])
      refine Go.step (fun tt kk => XS.aloadN X10.here hx rfl (hb hby d15_14) rfl rfl kk) ?_
      show Go _ _ _ _ _ _ _ T10 (mkF m 15 #[_, _, _, _, _] [(.ref a)])
      have f13 := (Fld.other W7 (Fld.other W6 f26_lp0__3 (Or.inr (slot_ne (Or.inr (hw _ (List.mem_of_getElem? (i := 39) rfl))) (Or.inl (hw _ (List.mem_of_getElem? (i := 107) rfl))) (by decide) (t := (.array .long)) (t' := .boolean) (by decide) (by decide)))) (Or.inr (slot_ne (Or.inr (hw _ (List.mem_of_getElem? (i := 39) rfl))) (Or.inl (hw _ (List.mem_of_getElem? (i := 109) rfl))) (by decide) (t := (.array .long)) (t' := .int) (by decide) (by decide))))
      obtain ⟨T12, X12, e12, st12⟩ := getF X10 hx hZ hown (host := "") (Or.inl (hw _ (List.mem_of_getElem? (i := 38) rfl))) Via.refl e10 f13 (g := (mkF m 15 #[.val (.ref a), .val (.int (1 : Int32)), .val (.ref rc), .unset, .unset] [(.ref a)])) rfl rfl (hb hby d15_15)
      refine Go.step (st12) ?_
      show Go _ _ _ _ _ _ _ T12 (mkF m 18 #[_, _, _, _, _] [(.ref rr)])
      refine Go.step (fun tt kk => XS.goto X12.here hx rfl (pc0 := 18) (pc' := 25) rfl (hb hby d15_18) (by decide) (by decide) kk) ?_
      show Go _ _ _ _ _ _ _ T12 (mkF m 25 #[_, _, _, _, _] [(.ref rr)])
      refine Go.step (fun tt kk => XS.astoreN X12.here hx rfl (hb hby d15_25) rfl rfl (l' := #[.val (.ref a), .val (.int (1 : Int32)), .val (.ref rr), .unset, .unset]) rfl kk) ?_
      show Go _ _ _ _ _ _ _ T12 (mkF m 26 #[_, _, _, _, _] [])
      have f14 : Fld Z h7 a "com/example/gridwright/gridwright/engine/LargeDraft" "scan" "I" (.int (Int32.ofNat (nr - (nr - 0)))) := by
        have q := F7
        rw [show nr - (nr - 0) = 0 by omega]; exact q
      have lp1_26 : ∀ (u : Nat)  (T26_lp1_ : State) (lc26_lp1_ : List Loc) (hh26_lp1_ : Heap) (X26_lp1_ : Stand p l e ({ frames := 0, cells := 0, slots := 0, locals := 0 } : Room) s m #[(.ref a)] below meth c T26_lp1_ lc26_lp1_ 0 0) (e26_lp1_ : T26_lp1_.heap = hh26_lp1_) (N26_lp1_ : Fr n0 lc26_lp1_) (Z26_lp1_ : n0 ≤ hh26_lp1_.size) (K26_lp1_ : Keep hI hh26_lp1_ [a, rr, rc]) (f26_lp1__0 : Exa Z hh26_lp1_ a "com/example/gridwright/gridwright/engine/LargeDraft") (f26_lp1__1 : Fld Z hh26_lp1_ a "com/example/gridwright/gridwright/engine/Draft" "height" "I" (.int (Int32.ofNat H))) (f26_lp1__2 : Fld Z hh26_lp1_ a "com/example/gridwright/gridwright/engine/Draft" "taken" "J" (.long tk)) (f26_lp1__3 : Fld Z hh26_lp1_ a "com/example/gridwright/gridwright/engine/LargeDraft" "waitingRows" "[J" (.ref rr)) (f26_lp1__4 : Fld Z hh26_lp1_ a "com/example/gridwright/gridwright/engine/LargeDraft" "waitingColumns" "[J" (.ref rc)) (f26_lp1__5 : Fld Z hh26_lp1_ a "com/example/gridwright/gridwright/engine/LargeDraft" "rows" "Z" (.int (1 : Int32))) (f26_lp1__6 : Fld Z hh26_lp1_ a "com/example/gridwright/gridwright/engine/LargeDraft" "scan" "I" (.int (Int32.ofNat (nr - u)))) (f26_lp1__7 : AV Z hh26_lp1_ rr .long nr (lv F)) (f26_lp1__8 : AV Z hh26_lp1_ rc .long nc (lv G)) (hu1 : u + 0 ≤ nr),
          Go p e s below 0 0 (fun v h L => ∃ tk' : Int64, v = some (.int (-1 : Int32)) ∧ Fr n0 L ∧ Keep h0 h [a, rr, rc] ∧ Exa Z h a "com/example/gridwright/gridwright/engine/LargeDraft" ∧ Fld Z h a "com/example/gridwright/gridwright/engine/Draft" "height" "I" (.int (Int32.ofNat H)) ∧ Fld Z h a "com/example/gridwright/gridwright/engine/Draft" "taken" "J" (.long tk') ∧ Fld Z h a "com/example/gridwright/gridwright/engine/LargeDraft" "waitingRows" "[J" (.ref rr) ∧ Fld Z h a "com/example/gridwright/gridwright/engine/LargeDraft" "waitingColumns" "[J" (.ref rc) ∧ Fld Z h a "com/example/gridwright/gridwright/engine/LargeDraft" "rows" "Z" (.int (0 : Int32)) ∧ Fld Z h a "com/example/gridwright/gridwright/engine/LargeDraft" "scan" "I" (.int (0 : Int32)) ∧ AV Z h rr .long nr (lv F) ∧ AV Z h rc .long nc (lv G)) T26_lp1_ (mkF m 26 #[.val (.ref a), .val (.int (1 : Int32)), .val (.ref rr), .unset, .unset] []) := by
        intro u
        induction u with
        | zero =>
          intro  T26_lp1_ lc26_lp1_ hh26_lp1_ X26_lp1_ e26_lp1_ N26_lp1_ Z26_lp1_ K26_lp1_ f26_lp1__0 f26_lp1__1 f26_lp1__2 f26_lp1__3 f26_lp1__4 f26_lp1__5 f26_lp1__6 f26_lp1__7 f26_lp1__8 hu1
          show Go _ _ _ _ _ _ _ T26_lp1_ (mkF m 26 #[.val (.ref a), .val (.int (1 : Int32)), .val (.ref rr), .unset, .unset] [])
          refine Go.step (fun tt kk => XS.aloadN X26_lp1_.here hx rfl (hb hby d15_26) rfl rfl kk) ?_
          show Go _ _ _ _ _ _ _ T26_lp1_ (mkF m 27 #[_, _, _, _, _] [(.ref a)])
          obtain ⟨T15, X15, e15, st15⟩ := getF X26_lp1_ hx hZ hown (host := "") (Or.inl (hw _ (List.mem_of_getElem? (i := 108) rfl))) Via.refl e26_lp1_ f26_lp1__6 (g := (mkF m 27 #[.val (.ref a), .val (.int (1 : Int32)), .val (.ref rr), .unset, .unset] [(.ref a)])) rfl rfl (hb hby d15_27)
          refine Go.step (st15) ?_
          show Go _ _ _ _ _ _ _ T15 (mkF m 30 #[_, _, _, _, _] [(.int (Int32.ofNat nr))])
          refine Go.step (fun tt kk => XS.aloadN X15.here hx rfl (hb hby d15_30) rfl rfl kk) ?_
          show Go _ _ _ _ _ _ _ T15 (mkF m 31 #[_, _, _, _, _] [(.ref rr), (.int (Int32.ofNat nr))])
          refine Go.step (a_len X15 hx hZ e15 f26_lp1__7 (z := (Int32.ofNat nr)) (Int32.toInt_ofNat_of_lt (by omega)) (hb hby d15_31)) ?_
          show Go _ _ _ _ _ _ _ T15 (mkF m 32 #[_, _, _, _, _] [(.int (Int32.ofNat nr)), (.int (Int32.ofNat nr))])
          refine Go.step (fun tt kk => XS.icmpYes X15.here hx rfl (pc0 := 32) (pc' := 129) rfl (hb hby d15_32) rfl (flt (mt (own_lt nr nr (by omega) (by omega)).mp (Nat.lt_irrefl _))).2.1 (by decide) (by decide) kk) ?_
          show Go _ _ _ _ _ _ _ T15 (mkF m 129 #[_, _, _, _, _] [])
          refine Go.step (fun tt kk => XS.aloadN X15.here hx rfl (hb hby d15_129) rfl rfl kk) ?_
          show Go _ _ _ _ _ _ _ T15 (mkF m 130 #[_, _, _, _, _] [(.ref a)])
          refine Go.step (fun tt kk => XS.aloadN X15.here hx rfl (hb hby d15_130) rfl rfl kk) ?_
          show Go _ _ _ _ _ _ _ T15 (mkF m 131 #[_, _, _, _, _] [(.ref a), (.ref a)])
          obtain ⟨T16, X16, e16, st16⟩ := getF X15 hx hZ hown (host := "") (Or.inl (hw _ (List.mem_of_getElem? (i := 106) rfl))) Via.refl e15 f26_lp1__5 (g := (mkF m 131 #[.val (.ref a), .val (.int (1 : Int32)), .val (.ref rr), .unset, .unset] [(.ref a), (.ref a)])) rfl rfl (hb hby d15_131)
          refine Go.step (st16) ?_
          show Go _ _ _ _ _ _ _ T16 (mkF m 134 #[_, _, _, _, _] [(.int (1 : Int32)), (.ref a)])
          refine Go.step (fun tt kk => XS.ifYes X16.here hx rfl (pc0 := 134) (pc' := 141) rfl (hb hby d15_134) rfl ((if0 _ _).trans (feq (by decide)).2) (by decide) (by decide) kk) ?_
          show Go _ _ _ _ _ _ _ T16 (mkF m 141 #[_, _, _, _, _] [(.ref a)])
          refine Go.step (fun tt kk => XS.iconst X16.here hx rfl (hb hby d15_141) kk) ?_
          show Go _ _ _ _ _ _ _ T16 (mkF m 142 #[_, _, _, _, _] [(.int (0 : Int32)), (.ref a)])
          obtain ⟨T17, h17, X17, e17, W17, st17⟩ := putFN X16 hx hZ hown (hw _ (List.mem_of_getElem? (i := 106) rfl)) Via.refl e16 f26_lp1__5 f26_lp1__0 (Or.inl (hw _ (List.mem_of_getElem? (i := 107) rfl))) (hw _ (List.mem_of_getElem? (i := 2) rfl)) (ty := .boolean) (v' := (.int (0 : Int32))) (by decide) rfl rfl (g := (mkF m 142 #[.val (.ref a), .val (.int (1 : Int32)), .val (.ref rr), .unset, .unset] [(.int (0 : Int32)), (.ref a)])) rfl rfl (hb hby d15_142)
          have F17 := Fld.same W17 f26_lp1__5
          have N17 := Fr.snoc X17 N26_lp1_ g_a
          have Z17 : n0 ≤ h17.size := Nat.le_trans Z26_lp1_ (Keep.of_wr W17).1
          have K17 : Keep hI h17 [a, rr, rc] := K26_lp1_.wr W17 (Or.inl (List.mem_of_getElem? (i := 0) rfl))
          refine Go.step (st17) ?_
          show Go _ _ _ _ _ _ _ T17 (mkF m 145 #[_, _, _, _, _] [])
          refine Go.step (fun tt kk => XS.aloadN X17.here hx rfl (hb hby d15_145) rfl rfl kk) ?_
          show Go _ _ _ _ _ _ _ T17 (mkF m 146 #[_, _, _, _, _] [(.ref a)])
          refine Go.step (fun tt kk => XS.iconst X17.here hx rfl (hb hby d15_146) kk) ?_
          show Go _ _ _ _ _ _ _ T17 (mkF m 147 #[_, _, _, _, _] [(.int (0 : Int32)), (.ref a)])
          have f19 := (Fld.other W17 f26_lp1__6 (Or.inr (slot_ne (Or.inl (hw _ (List.mem_of_getElem? (i := 109) rfl))) (Or.inl (hw _ (List.mem_of_getElem? (i := 107) rfl))) (by decide) (t := .int) (t' := .boolean) (by decide) (by decide))))
          have f20 := (Exa.wr W17 f26_lp1__0)
          obtain ⟨T18, h18, X18, e18, W18, st18⟩ := putF X17 hx hZ hown (host := "") (Or.inl (hw _ (List.mem_of_getElem? (i := 108) rfl))) Via.refl e17 f19 f20 (Or.inl (hw _ (List.mem_of_getElem? (i := 109) rfl))) (hw _ (List.mem_of_getElem? (i := 2) rfl)) (ty := .int) (by decide) rfl rfl (g := (mkF m 147 #[.val (.ref a), .val (.int (1 : Int32)), .val (.ref rr), .unset, .unset] [(.int (0 : Int32)), (.ref a)])) rfl rfl (hb hby d15_147)
          have F18 := Fld.same W18 f19
          have N18 := Fr.snoc X18 N17 g_a
          have Z18 : n0 ≤ h18.size := Nat.le_trans Z17 (Keep.of_wr W18).1
          have K18 : Keep hI h18 [a, rr, rc] := K17.wr W18 (Or.inl (List.mem_of_getElem? (i := 0) rfl))
          refine Go.step (st18) ?_
          show Go _ _ _ _ _ _ _ T18 (mkF m 150 #[_, _, _, _, _] [])
          refine Go.step (fun tt kk => XS.iinc X18.here hx rfl (hb hby d15_150) rfl (l' := #[.val (.ref a), .val (.int (2 : Int32)), .val (.ref rr), .unset, .unset]) rfl kk) ?_
          show Go _ _ _ _ _ _ _ T18 (mkF m 153 #[_, _, _, _, _] [])
          show Go _ _ _ _ _ _ _ T18 (mkF m 153 #[.val (.ref a), .val (.int (2 : Int32)), .val (.ref rr), .unset, .unset] [])
          refine Go.step (fun tt kk => XS.goto X18.here hx rfl (pc0 := 153) (pc' := 2) rfl (hb hby d15_153) (by decide) (by decide) kk) ?_
          show Go _ _ _ _ _ _ _ T18 (mkF m 2 #[_, _, _, _, _] [])
          refine Go.step (fun tt kk => XS.iloadN X18.here hx rfl (hb hby d15_2) rfl kk) ?_
          show Go _ _ _ _ _ _ _ T18 (mkF m 3 #[_, _, _, _, _] [(.int (2 : Int32))])
          refine Go.step (fun tt kk => XS.iconst X18.here hx rfl (hb hby d15_3) kk) ?_
          show Go _ _ _ _ _ _ _ T18 (mkF m 4 #[_, _, _, _, _] [(.int (2 : Int32)), (.int (2 : Int32))])
          refine Go.step (fun tt kk => XS.icmpYes X18.here hx rfl (pc0 := 4) (pc' := 156) rfl (hb hby d15_4) rfl (flt (by decide)).2.1 (by decide) (by decide) kk) ?_
          show Go _ _ _ _ _ _ _ T18 (mkF m 156 #[_, _, _, _, _] [])
          refine Go.step (fun tt kk => XS.iconst X18.here hx rfl (hb hby d15_156) kk) ?_
          show Go _ _ _ _ _ _ _ T18 (mkF m 157 #[_, _, _, _, _] [(.int (-1 : Int32))])
          have f21 := (Exa.wr W18 f20)
          have f22 := (Fld.other W18 (Fld.other W17 f26_lp1__1 (Or.inr (slot_ne (Or.inr (hw _ (List.mem_of_getElem? (i := 18) rfl))) (Or.inl (hw _ (List.mem_of_getElem? (i := 107) rfl))) (by decide) (t := .int) (t' := .boolean) (by decide) (by decide)))) (Or.inr (slot_ne (Or.inr (hw _ (List.mem_of_getElem? (i := 18) rfl))) (Or.inl (hw _ (List.mem_of_getElem? (i := 109) rfl))) (by decide) (t := .int) (t' := .int) (by decide) (by decide))))
          have f23 := (Fld.other W18 (Fld.other W17 f26_lp1__2 (Or.inr (slot_ne (Or.inl (hw _ (List.mem_of_getElem? (i := 86) rfl))) (Or.inl (hw _ (List.mem_of_getElem? (i := 107) rfl))) (by decide) (t := .long) (t' := .boolean) (by decide) (by decide)))) (Or.inr (slot_ne (Or.inl (hw _ (List.mem_of_getElem? (i := 86) rfl))) (Or.inl (hw _ (List.mem_of_getElem? (i := 109) rfl))) (by decide) (t := .long) (t' := .int) (by decide) (by decide))))
          have f24 := (Fld.other W18 (Fld.other W17 f26_lp1__3 (Or.inr (slot_ne (Or.inr (hw _ (List.mem_of_getElem? (i := 39) rfl))) (Or.inl (hw _ (List.mem_of_getElem? (i := 107) rfl))) (by decide) (t := (.array .long)) (t' := .boolean) (by decide) (by decide)))) (Or.inr (slot_ne (Or.inr (hw _ (List.mem_of_getElem? (i := 39) rfl))) (Or.inl (hw _ (List.mem_of_getElem? (i := 109) rfl))) (by decide) (t := (.array .long)) (t' := .int) (by decide) (by decide))))
          have f25 := (Fld.other W18 (Fld.other W17 f26_lp1__4 (Or.inr (slot_ne (Or.inr (hw _ (List.mem_of_getElem? (i := 41) rfl))) (Or.inl (hw _ (List.mem_of_getElem? (i := 107) rfl))) (by decide) (t := (.array .long)) (t' := .boolean) (by decide) (by decide)))) (Or.inr (slot_ne (Or.inr (hw _ (List.mem_of_getElem? (i := 41) rfl))) (Or.inl (hw _ (List.mem_of_getElem? (i := 109) rfl))) (by decide) (t := (.array .long)) (t' := .int) (by decide) (by decide))))
          have f26 := (Fld.other W18 F17 (Or.inr (slot_ne (Or.inl (hw _ (List.mem_of_getElem? (i := 107) rfl))) (Or.inl (hw _ (List.mem_of_getElem? (i := 109) rfl))) (by decide) (t := .boolean) (t' := .int) (by decide) (by decide))))
          have f27 := ((f26_lp1__7.other W17 (Ne.symm ne_a_rr)).other W18 (Ne.symm ne_a_rr))
          have f28 := ((f26_lp1__8.other W17 (Ne.symm ne_a_rc)).other W18 (Ne.symm ne_a_rc))
          refine go_retI X18 hx hret hlk (hb hby d15_157) ?_ (by decide) (by decide)
          try rw [e18]
          exact ⟨_, rfl, N18, eI ▸ K18, f21, f22, f23, f24, f25, f26, F18, f27, f28⟩
        | succ u ih =>
          intro  T26_lp1_ lc26_lp1_ hh26_lp1_ X26_lp1_ e26_lp1_ N26_lp1_ Z26_lp1_ K26_lp1_ f26_lp1__0 f26_lp1__1 f26_lp1__2 f26_lp1__3 f26_lp1__4 f26_lp1__5 f26_lp1__6 f26_lp1__7 f26_lp1__8 hu1
          show Go _ _ _ _ _ _ _ T26_lp1_ (mkF m 26 #[.val (.ref a), .val (.int (1 : Int32)), .val (.ref rr), .unset, .unset] [])
          refine Go.step (fun tt kk => XS.aloadN X26_lp1_.here hx rfl (hb hby d15_26) rfl rfl kk) ?_
          show Go _ _ _ _ _ _ _ T26_lp1_ (mkF m 27 #[_, _, _, _, _] [(.ref a)])
          obtain ⟨T29, X29, e29, st29⟩ := getF X26_lp1_ hx hZ hown (host := "") (Or.inl (hw _ (List.mem_of_getElem? (i := 108) rfl))) Via.refl e26_lp1_ f26_lp1__6 (g := (mkF m 27 #[.val (.ref a), .val (.int (1 : Int32)), .val (.ref rr), .unset, .unset] [(.ref a)])) rfl rfl (hb hby d15_27)
          refine Go.step (st29) ?_
          show Go _ _ _ _ _ _ _ T29 (mkF m 30 #[_, _, _, _, _] [(.int (Int32.ofNat (nr - (u + 1))))])
          refine Go.step (fun tt kk => XS.aloadN X29.here hx rfl (hb hby d15_30) rfl rfl kk) ?_
          show Go _ _ _ _ _ _ _ T29 (mkF m 31 #[_, _, _, _, _] [(.ref rr), (.int (Int32.ofNat (nr - (u + 1))))])
          refine Go.step (a_len X29 hx hZ e29 f26_lp1__7 (z := (Int32.ofNat nr)) (Int32.toInt_ofNat_of_lt (by omega)) (hb hby d15_31)) ?_
          show Go _ _ _ _ _ _ _ T29 (mkF m 32 #[_, _, _, _, _] [(.int (Int32.ofNat nr)), (.int (Int32.ofNat (nr - (u + 1))))])
          refine Go.step (fun tt kk => XS.icmpNo X29.here hx rfl (hb hby d15_32) rfl (tlt ((own_lt (nr - (u + 1)) nr (by omega) (by omega)).mpr (by omega))).2.1 kk) ?_
          show Go _ _ _ _ _ _ _ T29 (mkF m 35 #[_, _, _, _, _] [])
          refine Go.step (fun tt kk => XS.aloadN X29.here hx rfl (hb hby d15_35) rfl rfl kk) ?_
          show Go _ _ _ _ _ _ _ T29 (mkF m 36 #[_, _, _, _, _] [(.ref rr)])
          refine Go.step (fun tt kk => XS.aloadN X29.here hx rfl (hb hby d15_36) rfl rfl kk) ?_
          show Go _ _ _ _ _ _ _ T29 (mkF m 37 #[_, _, _, _, _] [(.ref a), (.ref rr)])
          obtain ⟨T30, X30, e30, st30⟩ := getF X29 hx hZ hown (host := "") (Or.inl (hw _ (List.mem_of_getElem? (i := 108) rfl))) Via.refl e29 f26_lp1__6 (g := (mkF m 37 #[.val (.ref a), .val (.int (1 : Int32)), .val (.ref rr), .unset, .unset] [(.ref a), (.ref rr)])) rfl rfl (hb hby d15_37)
          refine Go.step (st30) ?_
          show Go _ _ _ _ _ _ _ T30 (mkF m 40 #[_, _, _, _, _] [(.int (Int32.ofNat (nr - (u + 1)))), (.ref rr)])
          refine Go.step (a_jload X30 hx hZ e30 f26_lp1__7 (k := (nr - (u + 1))) (Int32.toInt_ofNat_of_lt (by omega)) (by omega) (x := (F (nr - (u + 1)))) rfl (hb hby d15_40)) ?_
          show Go _ _ _ _ _ _ _ T30 (mkF m 41 #[_, _, _, _, _] [(.long (F (nr - (u + 1))))])
          refine Go.step (fun tt kk => XS.lconst X30.here hx rfl (hb hby d15_41) kk) ?_
          show Go _ _ _ _ _ _ _ T30 (mkF m 42 #[_, _, _, _, _] [(.long (0 : Int64)), (.long (F (nr - (u + 1))))])
          refine Go.step (fun tt kk => XS.lcmp X30.here hx rfl (hb hby d15_42) rfl kk) ?_
          show Go _ _ _ _ _ _ _ T30 (mkF m 43 #[_, _, _, _, _] [(.int (lcmpW (F (nr - (u + 1))) (0 : Int64)))])
          refine Go.step (fun tt kk => XS.ifYes X30.here hx rfl (pc0 := 43) (pc' := 116) rfl (hb hby d15_43) rfl ((if0 _ _).trans (teq ((lw_eq _ _).mpr (hz1 (nr - (u + 1)) (by omega) (by omega)))).1) (by decide) (by decide) kk) ?_
          show Go _ _ _ _ _ _ _ T30 (mkF m 116 #[_, _, _, _, _] [])
          refine Go.step (fun tt kk => XS.aloadN X30.here hx rfl (hb hby d15_116) rfl rfl kk) ?_
          show Go _ _ _ _ _ _ _ T30 (mkF m 117 #[_, _, _, _, _] [(.ref a)])
          refine Go.step (fun tt kk => XS.dup X30.here hx rfl (hb hby d15_117) rfl rfl kk) ?_
          show Go _ _ _ _ _ _ _ T30 (mkF m 118 #[_, _, _, _, _] [(.ref a), (.ref a)])
          obtain ⟨T31, X31, e31, st31⟩ := getF X30 hx hZ hown (host := "") (Or.inl (hw _ (List.mem_of_getElem? (i := 108) rfl))) Via.refl e30 f26_lp1__6 (g := (mkF m 118 #[.val (.ref a), .val (.int (1 : Int32)), .val (.ref rr), .unset, .unset] [(.ref a), (.ref a)])) rfl rfl (hb hby d15_118)
          refine Go.step (st31) ?_
          show Go _ _ _ _ _ _ _ T31 (mkF m 121 #[_, _, _, _, _] [(.int (Int32.ofNat (nr - (u + 1)))), (.ref a)])
          refine Go.step (fun tt kk => XS.iconst X31.here hx rfl (hb hby d15_121) kk) ?_
          show Go _ _ _ _ _ _ _ T31 (mkF m 122 #[_, _, _, _, _] [(.int (1 : Int32)), (.int (Int32.ofNat (nr - (u + 1)))), (.ref a)])
          refine Go.step (fun tt kk => XS.iadd X31.here hx rfl (hb hby d15_122) rfl kk) ?_
          show Go _ _ _ _ _ _ _ T31 (mkF m 123 #[_, _, _, _, _] [(.int ((Int32.ofNat (nr - (u + 1))) + (1 : Int32))), (.ref a)])
          rw [own_up nr u (by omega)]
          show Go _ _ _ _ _ _ _ T31 (mkF m 123 #[.val (.ref a), .val (.int (1 : Int32)), .val (.ref rr), .unset, .unset] [(.int (Int32.ofNat (nr - u))), (.ref a)])
          obtain ⟨T32, h32, X32, e32, W32, st32⟩ := putF X31 hx hZ hown (host := "") (Or.inl (hw _ (List.mem_of_getElem? (i := 108) rfl))) Via.refl e31 f26_lp1__6 f26_lp1__0 (Or.inl (hw _ (List.mem_of_getElem? (i := 109) rfl))) (hw _ (List.mem_of_getElem? (i := 2) rfl)) (ty := .int) (by decide) rfl rfl (g := (mkF m 123 #[.val (.ref a), .val (.int (1 : Int32)), .val (.ref rr), .unset, .unset] [(.int (Int32.ofNat (nr - u))), (.ref a)])) rfl rfl (hb hby d15_123)
          have F32 := Fld.same W32 f26_lp1__6
          have N32 := Fr.snoc X32 N26_lp1_ g_a
          have Z32 : n0 ≤ h32.size := Nat.le_trans Z26_lp1_ (Keep.of_wr W32).1
          have K32 : Keep hI h32 [a, rr, rc] := K26_lp1_.wr W32 (Or.inl (List.mem_of_getElem? (i := 0) rfl))
          refine Go.step (st32) ?_
          show Go _ _ _ _ _ _ _ T32 (mkF m 126 #[_, _, _, _, _] [])
          refine Go.step (fun tt kk => XS.goto X32.here hx rfl (pc0 := 126) (pc' := 26) rfl (hb hby d15_126) (by decide) (by decide) kk) ?_
          show Go _ _ _ _ _ _ _ T32 (mkF m 26 #[_, _, _, _, _] [])
          have f33 := (Exa.wr W32 f26_lp1__0)
          have f34 := (Fld.other W32 f26_lp1__1 (Or.inr (slot_ne (Or.inr (hw _ (List.mem_of_getElem? (i := 18) rfl))) (Or.inl (hw _ (List.mem_of_getElem? (i := 109) rfl))) (by decide) (t := .int) (t' := .int) (by decide) (by decide))))
          have f35 := (Fld.other W32 f26_lp1__2 (Or.inr (slot_ne (Or.inl (hw _ (List.mem_of_getElem? (i := 86) rfl))) (Or.inl (hw _ (List.mem_of_getElem? (i := 109) rfl))) (by decide) (t := .long) (t' := .int) (by decide) (by decide))))
          have f36 := (Fld.other W32 f26_lp1__3 (Or.inr (slot_ne (Or.inr (hw _ (List.mem_of_getElem? (i := 39) rfl))) (Or.inl (hw _ (List.mem_of_getElem? (i := 109) rfl))) (by decide) (t := (.array .long)) (t' := .int) (by decide) (by decide))))
          have f37 := (Fld.other W32 f26_lp1__4 (Or.inr (slot_ne (Or.inr (hw _ (List.mem_of_getElem? (i := 41) rfl))) (Or.inl (hw _ (List.mem_of_getElem? (i := 109) rfl))) (by decide) (t := (.array .long)) (t' := .int) (by decide) (by decide))))
          have f38 := (Fld.other W32 f26_lp1__5 (Or.inr (slot_ne (Or.inl (hw _ (List.mem_of_getElem? (i := 107) rfl))) (Or.inl (hw _ (List.mem_of_getElem? (i := 109) rfl))) (by decide) (t := .boolean) (t' := .int) (by decide) (by decide))))
          have f39 := (f26_lp1__7.other W32 (Ne.symm ne_a_rr))
          have f40 := (f26_lp1__8.other W32 (Ne.symm ne_a_rc))
          exact ih  _ _ _ (X32.more (by decide) (by decide)) e32 N32 Z32 K32 f33 f34 f35 f36 f37 f38 F32 f39 f40 (by omega)
      have f41 := (Exa.wr W7 f9)
      have f42 := (Fld.other W7 (Fld.other W6 f26_lp0__1 (Or.inr (slot_ne (Or.inr (hw _ (List.mem_of_getElem? (i := 18) rfl))) (Or.inl (hw _ (List.mem_of_getElem? (i := 107) rfl))) (by decide) (t := .int) (t' := .boolean) (by decide) (by decide)))) (Or.inr (slot_ne (Or.inr (hw _ (List.mem_of_getElem? (i := 18) rfl))) (Or.inl (hw _ (List.mem_of_getElem? (i := 109) rfl))) (by decide) (t := .int) (t' := .int) (by decide) (by decide))))
      have f43 := (Fld.other W7 (Fld.other W6 f26_lp0__2 (Or.inr (slot_ne (Or.inl (hw _ (List.mem_of_getElem? (i := 86) rfl))) (Or.inl (hw _ (List.mem_of_getElem? (i := 107) rfl))) (by decide) (t := .long) (t' := .boolean) (by decide) (by decide)))) (Or.inr (slot_ne (Or.inl (hw _ (List.mem_of_getElem? (i := 86) rfl))) (Or.inl (hw _ (List.mem_of_getElem? (i := 109) rfl))) (by decide) (t := .long) (t' := .int) (by decide) (by decide))))
      have f44 := (Fld.other W7 (Fld.other W6 f26_lp0__4 (Or.inr (slot_ne (Or.inr (hw _ (List.mem_of_getElem? (i := 41) rfl))) (Or.inl (hw _ (List.mem_of_getElem? (i := 107) rfl))) (by decide) (t := (.array .long)) (t' := .boolean) (by decide) (by decide)))) (Or.inr (slot_ne (Or.inr (hw _ (List.mem_of_getElem? (i := 41) rfl))) (Or.inl (hw _ (List.mem_of_getElem? (i := 109) rfl))) (by decide) (t := (.array .long)) (t' := .int) (by decide) (by decide))))
      have f45 := ((f26_lp0__7.other W6 (Ne.symm ne_a_rr)).other W7 (Ne.symm ne_a_rr))
      have f46 := ((f26_lp0__8.other W6 (Ne.symm ne_a_rc)).other W7 (Ne.symm ne_a_rc))
      exact lp1_26 (nr - 0)  _ _ _ (X12.more (by decide) (by decide)) e12 N7 Z7 K7 f41 f42 f43 f13 f44 f11 f14 f45 f46 (by omega)
    | succ u ih =>
      intro  T26_lp0_ lc26_lp0_ hh26_lp0_ X26_lp0_ e26_lp0_ N26_lp0_ Z26_lp0_ K26_lp0_ f26_lp0__0 f26_lp0__1 f26_lp0__2 f26_lp0__3 f26_lp0__4 f26_lp0__5 f26_lp0__6 f26_lp0__7 f26_lp0__8 hu0
      show Go _ _ _ _ _ _ _ T26_lp0_ (mkF m 26 #[.val (.ref a), .val (.int (0 : Int32)), .val (.ref rc), .unset, .unset] [])
      refine Go.step (fun tt kk => XS.aloadN X26_lp0_.here hx rfl (hb hby d15_26) rfl rfl kk) ?_
      show Go _ _ _ _ _ _ _ T26_lp0_ (mkF m 27 #[_, _, _, _, _] [(.ref a)])
      obtain ⟨T47, X47, e47, st47⟩ := getF X26_lp0_ hx hZ hown (host := "") (Or.inl (hw _ (List.mem_of_getElem? (i := 108) rfl))) Via.refl e26_lp0_ f26_lp0__6 (g := (mkF m 27 #[.val (.ref a), .val (.int (0 : Int32)), .val (.ref rc), .unset, .unset] [(.ref a)])) rfl rfl (hb hby d15_27)
      refine Go.step (st47) ?_
      show Go _ _ _ _ _ _ _ T47 (mkF m 30 #[_, _, _, _, _] [(.int (Int32.ofNat (nc - (u + 1))))])
      refine Go.step (fun tt kk => XS.aloadN X47.here hx rfl (hb hby d15_30) rfl rfl kk) ?_
      show Go _ _ _ _ _ _ _ T47 (mkF m 31 #[_, _, _, _, _] [(.ref rc), (.int (Int32.ofNat (nc - (u + 1))))])
      refine Go.step (a_len X47 hx hZ e47 f26_lp0__8 (z := (Int32.ofNat nc)) (Int32.toInt_ofNat_of_lt (by omega)) (hb hby d15_31)) ?_
      show Go _ _ _ _ _ _ _ T47 (mkF m 32 #[_, _, _, _, _] [(.int (Int32.ofNat nc)), (.int (Int32.ofNat (nc - (u + 1))))])
      refine Go.step (fun tt kk => XS.icmpNo X47.here hx rfl (hb hby d15_32) rfl (tlt ((own_lt (nc - (u + 1)) nc (by omega) (by omega)).mpr (by omega))).2.1 kk) ?_
      show Go _ _ _ _ _ _ _ T47 (mkF m 35 #[_, _, _, _, _] [])
      refine Go.step (fun tt kk => XS.aloadN X47.here hx rfl (hb hby d15_35) rfl rfl kk) ?_
      show Go _ _ _ _ _ _ _ T47 (mkF m 36 #[_, _, _, _, _] [(.ref rc)])
      refine Go.step (fun tt kk => XS.aloadN X47.here hx rfl (hb hby d15_36) rfl rfl kk) ?_
      show Go _ _ _ _ _ _ _ T47 (mkF m 37 #[_, _, _, _, _] [(.ref a), (.ref rc)])
      obtain ⟨T48, X48, e48, st48⟩ := getF X47 hx hZ hown (host := "") (Or.inl (hw _ (List.mem_of_getElem? (i := 108) rfl))) Via.refl e47 f26_lp0__6 (g := (mkF m 37 #[.val (.ref a), .val (.int (0 : Int32)), .val (.ref rc), .unset, .unset] [(.ref a), (.ref rc)])) rfl rfl (hb hby d15_37)
      refine Go.step (st48) ?_
      show Go _ _ _ _ _ _ _ T48 (mkF m 40 #[_, _, _, _, _] [(.int (Int32.ofNat (nc - (u + 1)))), (.ref rc)])
      refine Go.step (a_jload X48 hx hZ e48 f26_lp0__8 (k := (nc - (u + 1))) (Int32.toInt_ofNat_of_lt (by omega)) (by omega) (x := (G (nc - (u + 1)))) rfl (hb hby d15_40)) ?_
      show Go _ _ _ _ _ _ _ T48 (mkF m 41 #[_, _, _, _, _] [(.long (G (nc - (u + 1))))])
      refine Go.step (fun tt kk => XS.lconst X48.here hx rfl (hb hby d15_41) kk) ?_
      show Go _ _ _ _ _ _ _ T48 (mkF m 42 #[_, _, _, _, _] [(.long (0 : Int64)), (.long (G (nc - (u + 1))))])
      refine Go.step (fun tt kk => XS.lcmp X48.here hx rfl (hb hby d15_42) rfl kk) ?_
      show Go _ _ _ _ _ _ _ T48 (mkF m 43 #[_, _, _, _, _] [(.int (lcmpW (G (nc - (u + 1))) (0 : Int64)))])
      refine Go.step (fun tt kk => XS.ifYes X48.here hx rfl (pc0 := 43) (pc' := 116) rfl (hb hby d15_43) rfl ((if0 _ _).trans (teq ((lw_eq _ _).mpr (hz0 (nc - (u + 1)) (by omega) (by omega)))).1) (by decide) (by decide) kk) ?_
      show Go _ _ _ _ _ _ _ T48 (mkF m 116 #[_, _, _, _, _] [])
      refine Go.step (fun tt kk => XS.aloadN X48.here hx rfl (hb hby d15_116) rfl rfl kk) ?_
      show Go _ _ _ _ _ _ _ T48 (mkF m 117 #[_, _, _, _, _] [(.ref a)])
      refine Go.step (fun tt kk => XS.dup X48.here hx rfl (hb hby d15_117) rfl rfl kk) ?_
      show Go _ _ _ _ _ _ _ T48 (mkF m 118 #[_, _, _, _, _] [(.ref a), (.ref a)])
      obtain ⟨T49, X49, e49, st49⟩ := getF X48 hx hZ hown (host := "") (Or.inl (hw _ (List.mem_of_getElem? (i := 108) rfl))) Via.refl e48 f26_lp0__6 (g := (mkF m 118 #[.val (.ref a), .val (.int (0 : Int32)), .val (.ref rc), .unset, .unset] [(.ref a), (.ref a)])) rfl rfl (hb hby d15_118)
      refine Go.step (st49) ?_
      show Go _ _ _ _ _ _ _ T49 (mkF m 121 #[_, _, _, _, _] [(.int (Int32.ofNat (nc - (u + 1)))), (.ref a)])
      refine Go.step (fun tt kk => XS.iconst X49.here hx rfl (hb hby d15_121) kk) ?_
      show Go _ _ _ _ _ _ _ T49 (mkF m 122 #[_, _, _, _, _] [(.int (1 : Int32)), (.int (Int32.ofNat (nc - (u + 1)))), (.ref a)])
      refine Go.step (fun tt kk => XS.iadd X49.here hx rfl (hb hby d15_122) rfl kk) ?_
      show Go _ _ _ _ _ _ _ T49 (mkF m 123 #[_, _, _, _, _] [(.int ((Int32.ofNat (nc - (u + 1))) + (1 : Int32))), (.ref a)])
      rw [own_up nc u (by omega)]
      show Go _ _ _ _ _ _ _ T49 (mkF m 123 #[.val (.ref a), .val (.int (0 : Int32)), .val (.ref rc), .unset, .unset] [(.int (Int32.ofNat (nc - u))), (.ref a)])
      obtain ⟨T50, h50, X50, e50, W50, st50⟩ := putF X49 hx hZ hown (host := "") (Or.inl (hw _ (List.mem_of_getElem? (i := 108) rfl))) Via.refl e49 f26_lp0__6 f26_lp0__0 (Or.inl (hw _ (List.mem_of_getElem? (i := 109) rfl))) (hw _ (List.mem_of_getElem? (i := 2) rfl)) (ty := .int) (by decide) rfl rfl (g := (mkF m 123 #[.val (.ref a), .val (.int (0 : Int32)), .val (.ref rc), .unset, .unset] [(.int (Int32.ofNat (nc - u))), (.ref a)])) rfl rfl (hb hby d15_123)
      have F50 := Fld.same W50 f26_lp0__6
      have N50 := Fr.snoc X50 N26_lp0_ g_a
      have Z50 : n0 ≤ h50.size := Nat.le_trans Z26_lp0_ (Keep.of_wr W50).1
      have K50 : Keep hI h50 [a, rr, rc] := K26_lp0_.wr W50 (Or.inl (List.mem_of_getElem? (i := 0) rfl))
      refine Go.step (st50) ?_
      show Go _ _ _ _ _ _ _ T50 (mkF m 126 #[_, _, _, _, _] [])
      refine Go.step (fun tt kk => XS.goto X50.here hx rfl (pc0 := 126) (pc' := 26) rfl (hb hby d15_126) (by decide) (by decide) kk) ?_
      show Go _ _ _ _ _ _ _ T50 (mkF m 26 #[_, _, _, _, _] [])
      have f51 := (Exa.wr W50 f26_lp0__0)
      have f52 := (Fld.other W50 f26_lp0__1 (Or.inr (slot_ne (Or.inr (hw _ (List.mem_of_getElem? (i := 18) rfl))) (Or.inl (hw _ (List.mem_of_getElem? (i := 109) rfl))) (by decide) (t := .int) (t' := .int) (by decide) (by decide))))
      have f53 := (Fld.other W50 f26_lp0__2 (Or.inr (slot_ne (Or.inl (hw _ (List.mem_of_getElem? (i := 86) rfl))) (Or.inl (hw _ (List.mem_of_getElem? (i := 109) rfl))) (by decide) (t := .long) (t' := .int) (by decide) (by decide))))
      have f54 := (Fld.other W50 f26_lp0__3 (Or.inr (slot_ne (Or.inr (hw _ (List.mem_of_getElem? (i := 39) rfl))) (Or.inl (hw _ (List.mem_of_getElem? (i := 109) rfl))) (by decide) (t := (.array .long)) (t' := .int) (by decide) (by decide))))
      have f55 := (Fld.other W50 f26_lp0__4 (Or.inr (slot_ne (Or.inr (hw _ (List.mem_of_getElem? (i := 41) rfl))) (Or.inl (hw _ (List.mem_of_getElem? (i := 109) rfl))) (by decide) (t := (.array .long)) (t' := .int) (by decide) (by decide))))
      have f56 := (Fld.other W50 f26_lp0__5 (Or.inr (slot_ne (Or.inl (hw _ (List.mem_of_getElem? (i := 107) rfl))) (Or.inl (hw _ (List.mem_of_getElem? (i := 109) rfl))) (by decide) (t := .boolean) (t' := .int) (by decide) (by decide))))
      have f57 := (f26_lp0__7.other W50 (Ne.symm ne_a_rr))
      have f58 := (f26_lp0__8.other W50 (Ne.symm ne_a_rc))
      exact ih  _ _ _ (X50.more (by decide) (by decide)) e50 N50 Z50 K50 f51 f52 f53 f54 f55 f56 F50 f57 f58 (by omega)
  exact lp0_26 (nc - k)  _ _ _ (X2.more (by decide) (by decide)) e2 N0 Z0 K0 E_a F_0 F_1 F_2 F_3 F_4 f3 V_rr V_rc (by omega)
theorem ef_rm0 (m : MethodId) (x0 : Int32) (x1 : Int32) (x2 : Int32) (x3 : Int32) : entryFrame m #[(.int x0), (.int x1), (.int x2), (.int x3)] maxLocals = mkF m 0 #[.val (.int x0), .val (.int x1), .val (.int x2), .val (.int x3), .unset, .unset, .unset, .unset, .unset, .unset, .unset, .unset, .unset, .unset, .unset, .unset] [] := by first | (simp [entryFrame, mkF, argsToLocals, Value.category, maxLocals]; done) | rfl
theorem pn_6 : plainName "com/example/gridwright/gridwright/engine/LargeDraftAwaitPinLaw" = true := by first | (simp [plainName, overriddenIn]; done) | decide +kernel
theorem pd_8 : parseMethodDescriptor "(I)V" = some ⟨[.int], none⟩ := by decide +kernel
set_option maxRecDepth 65536 in
set_option maxHeartbeats 40000000 in
theorem rm0 (l : Launch) (Z : State) (a0 : Array Value) (hw : ∀ d ∈ tables_1, d.before a0 Z = true) (ws : List Jvm.Cond) (i0 i1 i2 i3 : Int32) (h0 : Heap) (n0 : Nat) (Z0 : n0 ≤ h0.size)  :
    Ctr l Z x code maxLocals ret ws room_1 32 36992 #[(.int i0), (.int i1), (.int i2), (.int i3)] h0 (fun v h L => v = some (.int (1 : Int32)) ∧ Fr n0 L) := by
  refine Ctr.mk (plainFor_of_name pn_6) fun p e s m below meth c T0 X0 C e0 => go_cast (ef_rm0 m i0 i1 i2 i3) ?_
  have N0 := Fr.nil n0
  obtain ⟨hx, hZ, hby, hml, hown, hnm, hret, hlk⟩ := C
  show Go _ _ _ _ _ _ _ T0 (mkF m 0 #[.val (.int i0), .val (.int i1), .val (.int i2), .val (.int i3), .unset, .unset, .unset, .unset, .unset, .unset, .unset, .unset, .unset, .unset, .unset, .unset] [])
  refine Go.step (fun tt kk => XS.iconst X0.here hx rfl (hb hby at_0) kk) ?_
  show Go _ _ _ _ _ _ _ T0 (mkF m 1 #[_, _, _, _, _, _, _, _, _, _, _, _, _, _, _, _] [(.int (1 : Int32))])
  refine Go.step (fun tt kk => XS.iloadN X0.here hx rfl (hb hby at_1) rfl kk) ?_
  show Go _ _ _ _ _ _ _ T0 (mkF m 2 #[_, _, _, _, _, _, _, _, _, _, _, _, _, _, _, _] [(.int i0), (.int (1 : Int32))])
  refine Go.step (fun tt kk => XS.bipush X0.here hx rfl (hb hby at_2) kk) ?_
  show Go _ _ _ _ _ _ _ T0 (mkF m 4 #[_, _, _, _, _, _, _, _, _, _, _, _, _, _, _, _] [(.int (127 : Int32)), (.int i0), (.int (1 : Int32))])
  refine Go.step (fun tt kk => XS.iand X0.here hx rfl (hb hby at_4) rfl kk) ?_
  show Go _ _ _ _ _ _ _ T0 (mkF m 5 #[_, _, _, _, _, _, _, _, _, _, _, _, _, _, _, _] [(.int (i0 &&& (127 : Int32))), (.int (1 : Int32))])
  refine Go.step (fun tt kk => XS.iadd X0.here hx rfl (hb hby at_5) rfl kk) ?_
  show Go _ _ _ _ _ _ _ T0 (mkF m 6 #[_, _, _, _, _, _, _, _, _, _, _, _, _, _, _, _] [(.int ((1 : Int32) + (i0 &&& (127 : Int32))))])
  refine Go.step (fun tt kk => XS.istore X0.here hx rfl (hb hby at_6) rfl (l' := #[.val (.int i0), .val (.int i1), .val (.int i2), .val (.int i3), .val (.int ((1 : Int32) + (i0 &&& (127 : Int32)))), .unset, .unset, .unset, .unset, .unset, .unset, .unset, .unset, .unset, .unset, .unset]) rfl kk) ?_
  show Go _ _ _ _ _ _ _ T0 (mkF m 8 #[_, _, _, _, _, _, _, _, _, _, _, _, _, _, _, _] [])
  obtain ⟨W, hW1, hW, eW⟩ := own_side i0
  rw [eW]
  show Go _ _ _ _ _ _ _ T0 (mkF m 8 #[.val (.int i0), .val (.int i1), .val (.int i2), .val (.int i3), .val (.int (Int32.ofNat W)), .unset, .unset, .unset, .unset, .unset, .unset, .unset, .unset, .unset, .unset, .unset] [])
  refine Go.step (fun tt kk => XS.iconst X0.here hx rfl (hb hby at_8) kk) ?_
  show Go _ _ _ _ _ _ _ T0 (mkF m 9 #[_, _, _, _, _, _, _, _, _, _, _, _, _, _, _, _] [(.int (1 : Int32))])
  refine Go.step (fun tt kk => XS.iloadN X0.here hx rfl (hb hby at_9) rfl kk) ?_
  show Go _ _ _ _ _ _ _ T0 (mkF m 10 #[_, _, _, _, _, _, _, _, _, _, _, _, _, _, _, _] [(.int i1), (.int (1 : Int32))])
  refine Go.step (fun tt kk => XS.bipush X0.here hx rfl (hb hby at_10) kk) ?_
  show Go _ _ _ _ _ _ _ T0 (mkF m 12 #[_, _, _, _, _, _, _, _, _, _, _, _, _, _, _, _] [(.int (127 : Int32)), (.int i1), (.int (1 : Int32))])
  refine Go.step (fun tt kk => XS.iand X0.here hx rfl (hb hby at_12) rfl kk) ?_
  show Go _ _ _ _ _ _ _ T0 (mkF m 13 #[_, _, _, _, _, _, _, _, _, _, _, _, _, _, _, _] [(.int (i1 &&& (127 : Int32))), (.int (1 : Int32))])
  refine Go.step (fun tt kk => XS.iadd X0.here hx rfl (hb hby at_13) rfl kk) ?_
  show Go _ _ _ _ _ _ _ T0 (mkF m 14 #[_, _, _, _, _, _, _, _, _, _, _, _, _, _, _, _] [(.int ((1 : Int32) + (i1 &&& (127 : Int32))))])
  refine Go.step (fun tt kk => XS.istore X0.here hx rfl (hb hby at_14) rfl (l' := #[.val (.int i0), .val (.int i1), .val (.int i2), .val (.int i3), .val (.int (Int32.ofNat W)), .val (.int ((1 : Int32) + (i1 &&& (127 : Int32)))), .unset, .unset, .unset, .unset, .unset, .unset, .unset, .unset, .unset, .unset]) rfl kk) ?_
  show Go _ _ _ _ _ _ _ T0 (mkF m 16 #[_, _, _, _, _, _, _, _, _, _, _, _, _, _, _, _] [])
  obtain ⟨H, hH1, hH, eH⟩ := own_side i1
  rw [eH]
  show Go _ _ _ _ _ _ _ T0 (mkF m 16 #[.val (.int i0), .val (.int i1), .val (.int i2), .val (.int i3), .val (.int (Int32.ofNat W)), .val (.int (Int32.ofNat H)), .unset, .unset, .unset, .unset, .unset, .unset, .unset, .unset, .unset, .unset] [])
  refine Go.step (fun tt kk => XS.iload X0.here hx rfl (hb hby at_16) rfl kk) ?_
  show Go _ _ _ _ _ _ _ T0 (mkF m 18 #[_, _, _, _, _, _, _, _, _, _, _, _, _, _, _, _] [(.int (Int32.ofNat W))])
  refine Go.step (fun tt kk => XS.iload X0.here hx rfl (hb hby at_18) rfl kk) ?_
  show Go _ _ _ _ _ _ _ T0 (mkF m 20 #[_, _, _, _, _, _, _, _, _, _, _, _, _, _, _, _] [(.int (Int32.ofNat H)), (.int (Int32.ofNat W))])
  refine Go.step (fun tt kk => XS.iadd X0.here hx rfl (hb hby at_20) rfl kk) ?_
  show Go _ _ _ _ _ _ _ T0 (mkF m 21 #[_, _, _, _, _, _, _, _, _, _, _, _, _, _, _, _] [(.int ((Int32.ofNat W) + (Int32.ofNat H)))])
  refine Go.step (fun tt kk => XS.istore X0.here hx rfl (hb hby at_21) rfl (l' := #[.val (.int i0), .val (.int i1), .val (.int i2), .val (.int i3), .val (.int (Int32.ofNat W)), .val (.int (Int32.ofNat H)), .val (.int ((Int32.ofNat W) + (Int32.ofNat H))), .unset, .unset, .unset, .unset, .unset, .unset, .unset, .unset, .unset]) rfl kk) ?_
  show Go _ _ _ _ _ _ _ T0 (mkF m 23 #[_, _, _, _, _, _, _, _, _, _, _, _, _, _, _, _] [])
  rw [← Int32.ofNat_add]
  show Go _ _ _ _ _ _ _ T0 (mkF m 23 #[.val (.int i0), .val (.int i1), .val (.int i2), .val (.int i3), .val (.int (Int32.ofNat W)), .val (.int (Int32.ofNat H)), .val (.int (Int32.ofNat (W + H))), .unset, .unset, .unset, .unset, .unset, .unset, .unset, .unset, .unset] [])
  refine Go.step (fun tt kk => XS.iloadN X0.here hx rfl (hb hby at_23) rfl kk) ?_
  show Go _ _ _ _ _ _ _ T0 (mkF m 24 #[_, _, _, _, _, _, _, _, _, _, _, _, _, _, _, _] [(.int i2)])
  refine Go.step (X0.ldcInt hx hown (mvT hZ (hw _ (List.mem_of_getElem? (i := 0) rfl))) (g := (mkF m 24 #[.val (.int i0), .val (.int i1), .val (.int i2), .val (.int i3), .val (.int (Int32.ofNat W)), .val (.int (Int32.ofNat H)), .val (.int (Int32.ofNat (W + H))), .unset, .unset, .unset, .unset, .unset, .unset, .unset, .unset, .unset] [(.int i2)])) rfl (hb hby at_24)) ?_
  show Go _ _ _ _ _ _ _ T0 (mkF m 26 #[_, _, _, _, _, _, _, _, _, _, _, _, _, _, _, _] [(.int (2147483647 : Int32)), (.int i2)])
  refine Go.step (fun tt kk => XS.iand X0.here hx rfl (hb hby at_26) rfl kk) ?_
  show Go _ _ _ _ _ _ _ T0 (mkF m 27 #[_, _, _, _, _, _, _, _, _, _, _, _, _, _, _, _] [(.int (i2 &&& (2147483647 : Int32)))])
  refine Go.step (fun tt kk => XS.iload X0.here hx rfl (hb hby at_27) rfl kk) ?_
  show Go _ _ _ _ _ _ _ T0 (mkF m 29 #[_, _, _, _, _, _, _, _, _, _, _, _, _, _, _, _] [(.int (Int32.ofNat (W + H))), (.int (i2 &&& (2147483647 : Int32)))])
  refine Go.step (fun tt kk => iremM X0 hx rfl (hb hby at_29) rfl (own_nz (W + H) (by omega) (by omega)) kk) ?_
  show Go _ _ _ _ _ _ _ T0 (mkF m 30 #[_, _, _, _, _, _, _, _, _, _, _, _, _, _, _, _] [(.int ((i2 &&& (2147483647 : Int32)) % (Int32.ofNat (W + H))))])
  refine Go.step (fun tt kk => XS.istore X0.here hx rfl (hb hby at_30) rfl (l' := #[.val (.int i0), .val (.int i1), .val (.int i2), .val (.int i3), .val (.int (Int32.ofNat W)), .val (.int (Int32.ofNat H)), .val (.int (Int32.ofNat (W + H))), .val (.int ((i2 &&& (2147483647 : Int32)) % (Int32.ofNat (W + H)))), .unset, .unset, .unset, .unset, .unset, .unset, .unset, .unset]) rfl kk) ?_
  show Go _ _ _ _ _ _ _ T0 (mkF m 32 #[_, _, _, _, _, _, _, _, _, _, _, _, _, _, _, _] [])
  obtain ⟨A, hA, eA⟩ := own_line i2 (W + H) (by omega) (by omega)
  rw [eA]
  show Go _ _ _ _ _ _ _ T0 (mkF m 32 #[.val (.int i0), .val (.int i1), .val (.int i2), .val (.int i3), .val (.int (Int32.ofNat W)), .val (.int (Int32.ofNat H)), .val (.int (Int32.ofNat (W + H))), .val (.int (Int32.ofNat A)), .unset, .unset, .unset, .unset, .unset, .unset, .unset, .unset] [])
  refine Go.step (fun tt kk => XS.iloadN X0.here hx rfl (hb hby at_32) rfl kk) ?_
  show Go _ _ _ _ _ _ _ T0 (mkF m 33 #[_, _, _, _, _, _, _, _, _, _, _, _, _, _, _, _] [(.int i3)])
  refine Go.step (X0.ldcInt hx hown (mvT hZ (hw _ (List.mem_of_getElem? (i := 0) rfl))) (g := (mkF m 33 #[.val (.int i0), .val (.int i1), .val (.int i2), .val (.int i3), .val (.int (Int32.ofNat W)), .val (.int (Int32.ofNat H)), .val (.int (Int32.ofNat (W + H))), .val (.int (Int32.ofNat A)), .unset, .unset, .unset, .unset, .unset, .unset, .unset, .unset] [(.int i3)])) rfl (hb hby at_33)) ?_
  show Go _ _ _ _ _ _ _ T0 (mkF m 35 #[_, _, _, _, _, _, _, _, _, _, _, _, _, _, _, _] [(.int (2147483647 : Int32)), (.int i3)])
  refine Go.step (fun tt kk => XS.iand X0.here hx rfl (hb hby at_35) rfl kk) ?_
  show Go _ _ _ _ _ _ _ T0 (mkF m 36 #[_, _, _, _, _, _, _, _, _, _, _, _, _, _, _, _] [(.int (i3 &&& (2147483647 : Int32)))])
  refine Go.step (fun tt kk => XS.iload X0.here hx rfl (hb hby at_36) rfl kk) ?_
  show Go _ _ _ _ _ _ _ T0 (mkF m 38 #[_, _, _, _, _, _, _, _, _, _, _, _, _, _, _, _] [(.int (Int32.ofNat (W + H))), (.int (i3 &&& (2147483647 : Int32)))])
  refine Go.step (fun tt kk => iremM X0 hx rfl (hb hby at_38) rfl (own_nz (W + H) (by omega) (by omega)) kk) ?_
  show Go _ _ _ _ _ _ _ T0 (mkF m 39 #[_, _, _, _, _, _, _, _, _, _, _, _, _, _, _, _] [(.int ((i3 &&& (2147483647 : Int32)) % (Int32.ofNat (W + H))))])
  refine Go.step (fun tt kk => XS.istore X0.here hx rfl (hb hby at_39) rfl (l' := #[.val (.int i0), .val (.int i1), .val (.int i2), .val (.int i3), .val (.int (Int32.ofNat W)), .val (.int (Int32.ofNat H)), .val (.int (Int32.ofNat (W + H))), .val (.int (Int32.ofNat A)), .val (.int ((i3 &&& (2147483647 : Int32)) % (Int32.ofNat (W + H)))), .unset, .unset, .unset, .unset, .unset, .unset, .unset]) rfl kk) ?_
  show Go _ _ _ _ _ _ _ T0 (mkF m 41 #[_, _, _, _, _, _, _, _, _, _, _, _, _, _, _, _] [])
  obtain ⟨B, hB, eB⟩ := own_line i3 (W + H) (by omega) (by omega)
  rw [eB]
  show Go _ _ _ _ _ _ _ T0 (mkF m 41 #[.val (.int i0), .val (.int i1), .val (.int i2), .val (.int i3), .val (.int (Int32.ofNat W)), .val (.int (Int32.ofNat H)), .val (.int (Int32.ofNat (W + H))), .val (.int (Int32.ofNat A)), .val (.int (Int32.ofNat B)), .unset, .unset, .unset, .unset, .unset, .unset, .unset] [])
  obtain ⟨T1, h1, X1, e1, E1, A1, D1, -, st1⟩ := newO X0 hx hZ hown (hw _ (List.mem_of_getElem? (i := 1) rfl)) (hw _ (List.mem_of_getElem? (i := 2) rfl)) (hw _ (List.mem_of_getElem? (i := 3) rfl)) e0 (g := (mkF m 41 #[.val (.int i0), .val (.int i1), .val (.int i2), .val (.int i3), .val (.int (Int32.ofNat W)), .val (.int (Int32.ofNat H)), .val (.int (Int32.ofNat (W + H))), .val (.int (Int32.ofNat A)), .val (.int (Int32.ofNat B)), .unset, .unset, .unset, .unset, .unset, .unset, .unset] [])) rfl (hb hby at_41) (by decide) (by decide)
  obtain ⟨b1, g1⟩ : ∃ z, z = h0.size := ⟨_, rfl⟩
  rw [← g1] at A1 D1 st1
  have gn_b1 : n0 ≤ b1 := Nat.le_trans Z0 (Nat.le_of_eq g1.symm)
  have Z1 : n0 ≤ h1.size := Nat.le_trans Z0 E1.1
  have F1_width : Fld Z h1 b1 "com/example/gridwright/gridwright/engine/Draft" "width" "I" (.int (0 : Int32)) := D1 (Or.inr (hw _ (List.mem_of_getElem? (i := 16) rfl))) (ty := .int) (by decide)
  have F1_height : Fld Z h1 b1 "com/example/gridwright/gridwright/engine/Draft" "height" "I" (.int (0 : Int32)) := D1 (Or.inr (hw _ (List.mem_of_getElem? (i := 18) rfl))) (ty := .int) (by decide)
  have F1_stride : Fld Z h1 b1 "com/example/gridwright/gridwright/engine/LargeDraft" "stride" "I" (.int (0 : Int32)) := D1 (Or.inr (hw _ (List.mem_of_getElem? (i := 28) rfl))) (ty := .int) (by decide)
  have F1_filled : Fld Z h1 b1 "com/example/gridwright/gridwright/engine/LargeDraft" "filled" "[J" .null := D1 (Or.inr (hw _ (List.mem_of_getElem? (i := 31) rfl))) (ty := (.array .long)) (by decide)
  have F1_empty : Fld Z h1 b1 "com/example/gridwright/gridwright/engine/LargeDraft" "empty" "[J" .null := D1 (Or.inr (hw _ (List.mem_of_getElem? (i := 33) rfl))) (ty := (.array .long)) (by decide)
  have F1_changedRows : Fld Z h1 b1 "com/example/gridwright/gridwright/engine/LargeDraft" "changedRows" "[J" .null := D1 (Or.inr (hw _ (List.mem_of_getElem? (i := 35) rfl))) (ty := (.array .long)) (by decide)
  have F1_changedColumns : Fld Z h1 b1 "com/example/gridwright/gridwright/engine/LargeDraft" "changedColumns" "[J" .null := D1 (Or.inr (hw _ (List.mem_of_getElem? (i := 37) rfl))) (ty := (.array .long)) (by decide)
  have F1_waitingRows : Fld Z h1 b1 "com/example/gridwright/gridwright/engine/LargeDraft" "waitingRows" "[J" .null := D1 (Or.inr (hw _ (List.mem_of_getElem? (i := 39) rfl))) (ty := (.array .long)) (by decide)
  have F1_waitingColumns : Fld Z h1 b1 "com/example/gridwright/gridwright/engine/LargeDraft" "waitingColumns" "[J" .null := D1 (Or.inr (hw _ (List.mem_of_getElem? (i := 41) rfl))) (ty := (.array .long)) (by decide)
  have F1_taken : Fld Z h1 b1 "com/example/gridwright/gridwright/engine/Draft" "taken" "J" (.long (0 : Int64)) := D1 (Or.inl (hw _ (List.mem_of_getElem? (i := 86) rfl))) (ty := .long) (by decide)
  have F1_decided : Fld Z h1 b1 "com/example/gridwright/gridwright/engine/Draft" "decided" "I" (.int (0 : Int32)) := D1 (Or.inl (hw _ (List.mem_of_getElem? (i := 88) rfl))) (ty := .int) (by decide)
  have F1_grid : Fld Z h1 b1 "com/example/gridwright/gridwright/engine/LargeDraft" "grid" "Lcom/example/gridwright/gridwright/engine/Grid;" .null := D1 (Or.inl (hw _ (List.mem_of_getElem? (i := 95) rfl))) (ty := (.object "com/example/gridwright/gridwright/engine/Grid")) (by decide)
  have F1_rows : Fld Z h1 b1 "com/example/gridwright/gridwright/engine/LargeDraft" "rows" "Z" (.int (0 : Int32)) := D1 (Or.inl (hw _ (List.mem_of_getElem? (i := 107) rfl))) (ty := .boolean) (by decide)
  have F1_scan : Fld Z h1 b1 "com/example/gridwright/gridwright/engine/LargeDraft" "scan" "I" (.int (0 : Int32)) := D1 (Or.inl (hw _ (List.mem_of_getElem? (i := 109) rfl))) (ty := .int) (by decide)
  refine Go.step (st1) ?_
  show Go _ _ _ _ _ _ _ T1 (mkF m 44 #[_, _, _, _, _, _, _, _, _, _, _, _, _, _, _, _] [(.ref b1)])
  refine Go.step (fun tt kk => XS.dup X1.here hx rfl (hb hby at_44) rfl rfl kk) ?_
  show Go _ _ _ _ _ _ _ T1 (mkF m 45 #[_, _, _, _, _, _, _, _, _, _, _, _, _, _, _, _] [(.ref b1), (.ref b1)])
  refine Go.step (fun tt kk => XS.iload X1.here hx rfl (hb hby at_45) rfl kk) ?_
  show Go _ _ _ _ _ _ _ T1 (mkF m 47 #[_, _, _, _, _, _, _, _, _, _, _, _, _, _, _, _] [(.int (Int32.ofNat W)), (.ref b1), (.ref b1)])
  refine Go.step (fun tt kk => XS.iload X1.here hx rfl (hb hby at_47) rfl kk) ?_
  show Go _ _ _ _ _ _ _ T1 (mkF m 49 #[_, _, _, _, _, _, _, _, _, _, _, _, _, _, _, _] [(.int (Int32.ofNat H)), (.int (Int32.ofNat W)), (.ref b1), (.ref b1)])
  obtain ⟨v2, T2, L2, X2, q2, st2⟩ := c_init X1 hx hZ hown (y := (⟨"com/example/gridwright/gridwright/engine/LargeDraft", "<init>", "(II)V"⟩ : MethodName)) (hw _ (List.mem_of_getElem? (i := 4) rfl)) (hw _ (List.mem_of_getElem? (i := 5) rfl)) (hw _ (List.mem_of_getElem? (i := 3) rfl)) (hw _ (List.mem_of_getElem? (i := 6) rfl)) rfl (by decide) (a := b1) (argsL := [(.int (Int32.ofNat W)), (.int (Int32.ofNat H))]) (rest := [(.ref b1)]) (rmLi l Z a0 hw [] b1 W H h1 n0 Z1 A1 F1_width F1_height F1_taken F1_decided F1_stride F1_filled F1_empty F1_changedRows F1_changedColumns F1_waitingRows F1_waitingColumns F1_grid F1_rows F1_scan gn_b1 hW1 hW hH1 hH) e1 pd_2 rfl (by rw [hml]; rfl) (W := 1) (by show 2 * 0 + _ ≤ _; exact Nat.le_of_eq rfl) (by decide) (by decide) (by decide) (by decide) (hb hby at_49) (Ls := #[.val (.int i0), .val (.int i1), .val (.int i2), .val (.int i3), .val (.int (Int32.ofNat W)), .val (.int (Int32.ofNat H)), .val (.int (Int32.ofNat (W + H))), .val (.int (Int32.ofNat A)), .val (.int (Int32.ofNat B)), .unset, .unset, .unset, .unset, .unset, .unset, .unset])
  generalize e2 : T2.heap = h2 at q2
  obtain ⟨x2_0, x2_1, x2_2, x2_3, rfl, N2q, K2q, F2q0, F2q1, F2q2, F2q3, F2q4, F2q5, F2q6, F2q7, F2q8, F2q9, F2q10, F2q11, F2q12, F2q13, F2q14, F2q15, F2q16, F2q17⟩ := q2
  have N2 := Fr.app N0 N2q
  have Z2 : n0 ≤ h2.size := Nat.le_trans Z1 K2q.1
  obtain ⟨sz_x2_0, sz_x2_1, sz_x2_2, sz_x2_3⟩ := F2q0
  have ne_b1_x2_0 : b1 ≠ x2_0 := Nat.ne_of_lt (Nat.lt_of_lt_of_le A1.lt sz_x2_0)
  have gn_x2_0 : n0 ≤ x2_0 := Nat.le_trans Z1 sz_x2_0
  have ne_b1_x2_1 : b1 ≠ x2_1 := Nat.ne_of_lt (Nat.lt_of_lt_of_le A1.lt sz_x2_1)
  have gn_x2_1 : n0 ≤ x2_1 := Nat.le_trans Z1 sz_x2_1
  have ne_b1_x2_2 : b1 ≠ x2_2 := Nat.ne_of_lt (Nat.lt_of_lt_of_le A1.lt sz_x2_2)
  have gn_x2_2 : n0 ≤ x2_2 := Nat.le_trans Z1 sz_x2_2
  have ne_b1_x2_3 : b1 ≠ x2_3 := Nat.ne_of_lt (Nat.lt_of_lt_of_le A1.lt sz_x2_3)
  have gn_x2_3 : n0 ≤ x2_3 := Nat.le_trans Z1 sz_x2_3
  obtain ⟨ne_x2_0_x2_1, ne_x2_0_x2_2, ne_x2_0_x2_3, ne_x2_1_x2_2, ne_x2_1_x2_3, ne_x2_2_x2_3⟩ := F2q1
  refine Go.step (st2) ?_
  show Go _ _ _ _ _ _ _ T2 (mkF m 52 #[_, _, _, _, _, _, _, _, _, _, _, _, _, _, _, _] [(.ref b1)])
  refine Go.step (fun tt kk => XS.astore X2.here hx rfl (hb hby at_52) rfl rfl (l' := #[.val (.int i0), .val (.int i1), .val (.int i2), .val (.int i3), .val (.int (Int32.ofNat W)), .val (.int (Int32.ofNat H)), .val (.int (Int32.ofNat (W + H))), .val (.int (Int32.ofNat A)), .val (.int (Int32.ofNat B)), .val (.ref b1), .unset, .unset, .unset, .unset, .unset, .unset]) rfl kk) ?_
  show Go _ _ _ _ _ _ _ T2 (mkF m 54 #[_, _, _, _, _, _, _, _, _, _, _, _, _, _, _, _] [])
  refine Go.step (fun tt kk => XS.aload X2.here hx rfl (hb hby at_54) rfl rfl kk) ?_
  show Go _ _ _ _ _ _ _ T2 (mkF m 56 #[_, _, _, _, _, _, _, _, _, _, _, _, _, _, _, _] [(.ref b1)])
  obtain ⟨T3, h3, X3, e3, E3, A3, D3, -, st3⟩ := newO X2 hx hZ hown (hw _ (List.mem_of_getElem? (i := 42) rfl)) (hw _ (List.mem_of_getElem? (i := 43) rfl)) (hw _ (List.mem_of_getElem? (i := 25) rfl)) e2 (g := (mkF m 56 #[.val (.int i0), .val (.int i1), .val (.int i2), .val (.int i3), .val (.int (Int32.ofNat W)), .val (.int (Int32.ofNat H)), .val (.int (Int32.ofNat (W + H))), .val (.int (Int32.ofNat A)), .val (.int (Int32.ofNat B)), .val (.ref b1), .unset, .unset, .unset, .unset, .unset, .unset] [(.ref b1)])) rfl (hb hby at_56) (by decide) (by decide)
  obtain ⟨b3, g3⟩ : ∃ z, z = h2.size := ⟨_, rfl⟩
  rw [← g3] at A3 D3 st3
  have ne_b1_b3 : b1 ≠ b3 := Nat.ne_of_lt (Nat.lt_of_lt_of_le F2q2.lt (Nat.le_of_eq g3.symm))
  have ne_x2_0_b3 : x2_0 ≠ b3 := Nat.ne_of_lt (Nat.lt_of_lt_of_le F2q14.lt (Nat.le_of_eq g3.symm))
  have ne_x2_1_b3 : x2_1 ≠ b3 := Nat.ne_of_lt (Nat.lt_of_lt_of_le F2q15.lt (Nat.le_of_eq g3.symm))
  have ne_x2_2_b3 : x2_2 ≠ b3 := Nat.ne_of_lt (Nat.lt_of_lt_of_le F2q16.lt (Nat.le_of_eq g3.symm))
  have ne_x2_3_b3 : x2_3 ≠ b3 := Nat.ne_of_lt (Nat.lt_of_lt_of_le F2q17.lt (Nat.le_of_eq g3.symm))
  have gn_b3 : n0 ≤ b3 := Nat.le_trans Z2 (Nat.le_of_eq g3.symm)
  have Z3 : n0 ≤ h3.size := Nat.le_trans Z2 E3.1
  have F3_width : Fld Z h3 b3 "com/example/gridwright/gridwright/engine/Grid" "width" "I" (.int (0 : Int32)) := D3 (Or.inr (hw _ (List.mem_of_getElem? (i := 49) rfl))) (ty := .int) (by decide)
  have F3_height : Fld Z h3 b3 "com/example/gridwright/gridwright/engine/Grid" "height" "I" (.int (0 : Int32)) := D3 (Or.inr (hw _ (List.mem_of_getElem? (i := 51) rfl))) (ty := .int) (by decide)
  have F3_cells : Fld Z h3 b3 "com/example/gridwright/gridwright/engine/Grid" "cells" "[B" .null := D3 (Or.inr (hw _ (List.mem_of_getElem? (i := 57) rfl))) (ty := (.array .byte)) (by decide)
  have F3_rowFactor : Fld Z h3 b3 "com/example/gridwright/gridwright/engine/Grid" "rowFactor" "J" (.long (0 : Int64)) := D3 (Or.inr (hw _ (List.mem_of_getElem? (i := 60) rfl))) (ty := .long) (by decide)
  have F3_stride : Fld Z h3 b3 "com/example/gridwright/gridwright/engine/Grid" "stride" "I" (.int (0 : Int32)) := D3 (Or.inr (hw _ (List.mem_of_getElem? (i := 64) rfl))) (ty := .int) (by decide)
  have F3_filled : Fld Z h3 b3 "com/example/gridwright/gridwright/engine/Grid" "filled" "[J" .null := D3 (Or.inr (hw _ (List.mem_of_getElem? (i := 66) rfl))) (ty := (.array .long)) (by decide)
  have F3_empty : Fld Z h3 b3 "com/example/gridwright/gridwright/engine/Grid" "empty" "[J" .null := D3 (Or.inr (hw _ (List.mem_of_getElem? (i := 68) rfl))) (ty := (.array .long)) (by decide)
  refine Go.step (st3) ?_
  show Go _ _ _ _ _ _ _ T3 (mkF m 59 #[_, _, _, _, _, _, _, _, _, _, _, _, _, _, _, _] [(.ref b3), (.ref b1)])
  refine Go.step (fun tt kk => XS.dup X3.here hx rfl (hb hby at_59) rfl rfl kk) ?_
  show Go _ _ _ _ _ _ _ T3 (mkF m 60 #[_, _, _, _, _, _, _, _, _, _, _, _, _, _, _, _] [(.ref b3), (.ref b3), (.ref b1)])
  refine Go.step (fun tt kk => XS.iload X3.here hx rfl (hb hby at_60) rfl kk) ?_
  show Go _ _ _ _ _ _ _ T3 (mkF m 62 #[_, _, _, _, _, _, _, _, _, _, _, _, _, _, _, _] [(.int (Int32.ofNat W)), (.ref b3), (.ref b3), (.ref b1)])
  refine Go.step (fun tt kk => XS.iload X3.here hx rfl (hb hby at_62) rfl kk) ?_
  show Go _ _ _ _ _ _ _ T3 (mkF m 64 #[_, _, _, _, _, _, _, _, _, _, _, _, _, _, _, _] [(.int (Int32.ofNat H)), (.int (Int32.ofNat W)), (.ref b3), (.ref b3), (.ref b1)])
  obtain ⟨v4, T4, L4, X4, q4, st4⟩ := c_init X3 hx hZ hown (y := (⟨"com/example/gridwright/gridwright/engine/Grid", "<init>", "(II)V"⟩ : MethodName)) (hw _ (List.mem_of_getElem? (i := 44) rfl)) (hw _ (List.mem_of_getElem? (i := 45) rfl)) (hw _ (List.mem_of_getElem? (i := 25) rfl)) (hw _ (List.mem_of_getElem? (i := 46) rfl)) rfl (by decide) (a := b3) (argsL := [(.int (Int32.ofNat W)), (.int (Int32.ofNat H))]) (rest := [(.ref b3), (.ref b1)]) (rmGi l Z a0 hw [] b3 W H h3 n0 Z3 hW1 hW hH1 hH A3 F3_width F3_height F3_cells F3_rowFactor F3_stride F3_filled F3_empty gn_b3) e3 pd_2 rfl (by rw [hml]; rfl) (W := 2) (by show 2 * 0 + _ ≤ _; exact Nat.le_of_eq rfl) (by decide) (by decide) (by decide) (by decide) (hb hby at_64) (Ls := #[.val (.int i0), .val (.int i1), .val (.int i2), .val (.int i3), .val (.int (Int32.ofNat W)), .val (.int (Int32.ofNat H)), .val (.int (Int32.ofNat (W + H))), .val (.int (Int32.ofNat A)), .val (.int (Int32.ofNat B)), .val (.ref b1), .unset, .unset, .unset, .unset, .unset, .unset])
  generalize e4 : T4.heap = h4 at q4
  obtain ⟨rfl, N4q, K4q, E4q, F4q0, F4q1⟩ := q4
  have N4 := Fr.app N2 N4q
  have Z4 : n0 ≤ h4.size := Nat.le_trans Z3 K4q.1
  refine Go.step (st4) ?_
  show Go _ _ _ _ _ _ _ T4 (mkF m 67 #[_, _, _, _, _, _, _, _, _, _, _, _, _, _, _, _] [(.ref b3), (.ref b1)])
  have f6 := ((Exa.ext E3 F2q2).keep K4q)
  have f7 := ((Fld.ext E3 F2q3).keep K4q (ninS ne_b1_b3 nin0))
  have f8 := ((Fld.ext E3 F2q4).keep K4q (ninS ne_b1_b3 nin0))
  have f9 := ((Fld.ext E3 F2q5).keep K4q (ninS ne_b1_b3 nin0))
  have f10 := ((Fld.ext E3 F2q6).keep K4q (ninS ne_b1_b3 nin0))
  have f11 := ((Fld.ext E3 F2q8).keep K4q (ninS ne_b1_b3 nin0))
  have f12 := ((Fld.ext E3 F2q9).keep K4q (ninS ne_b1_b3 nin0))
  have f13 := ((Fld.ext E3 F2q10).keep K4q (ninS ne_b1_b3 nin0))
  have f14 := ((Fld.ext E3 F2q11).keep K4q (ninS ne_b1_b3 nin0))
  have f15 := ((Fld.ext E3 F2q7).keep K4q (ninS ne_b1_b3 nin0))
  have f16 := ((Fld.ext E3 F2q12).keep K4q (ninS ne_b1_b3 nin0))
  have f17 := ((Fld.ext E3 F2q13).keep K4q (ninS ne_b1_b3 nin0))
  have f18 := ((F2q14.ext E3).keep K4q (ninS ne_x2_0_b3 nin0))
  have f19 := ((F2q15.ext E3).keep K4q (ninS ne_x2_1_b3 nin0))
  have f20 := ((F2q16.ext E3).keep K4q (ninS ne_x2_2_b3 nin0))
  have f21 := ((F2q17.ext E3).keep K4q (ninS ne_x2_3_b3 nin0))
  obtain ⟨v5, T5, L5, X5, q5, st5⟩ := c_virtUp X4 hx hZ hown (y' := (⟨"com/example/gridwright/gridwright/engine/LargeDraft", "start", "(Lcom/example/gridwright/gridwright/engine/Grid;)V"⟩ : MethodName)) (y := (⟨"com/example/gridwright/gridwright/engine/Draft", "start", "(Lcom/example/gridwright/gridwright/engine/Grid;)V"⟩ : MethodName)) (C := "com/example/gridwright/gridwright/engine/LargeDraft") (owner := "com/example/gridwright/gridwright/engine/Draft") (hw _ (List.mem_of_getElem? (i := 69) rfl)) (hw _ (List.mem_of_getElem? (i := 70) rfl)) (hw _ (List.mem_of_getElem? (i := 71) rfl)) (hw _ (List.mem_of_getElem? (i := 73) rfl)) (hw _ (List.mem_of_getElem? (i := 72) rfl)) (hw _ (List.mem_of_getElem? (i := 10) rfl)) (hw _ (List.mem_of_getElem? (i := 74) rfl)) (by decide) (a := b1) (argsL := [(.ref b3)]) (rest := []) (rmSt l Z a0 hw [] b1 b3 x2_0 x2_1 x2_2 x2_3 W H ((H + 63) / 64) ((W + 63) / 64) (0 : Int64) (0 : Int32) .null (0 : Int32) (0 : Int32) h4 n0 Z4 f6 f7 f8 f9 f10 f11 f12 f13 f14 f15 f16 f17 f18 f19 f20 f21 gn_b1 gn_x2_0 gn_x2_1 gn_x2_2 gn_x2_3 ne_b1_x2_0 ne_b1_x2_1 ne_b1_x2_2 ne_b1_x2_3 ne_x2_0_x2_1 ne_x2_0_x2_2 ne_x2_0_x2_3 ne_x2_1_x2_2 ne_x2_1_x2_3 ne_x2_2_x2_3 E4q F4q0 F4q1 ne_b1_b3 (by omega) (by omega) (by omega) (by omega)) e4 f6 pd_6 rfl (by rw [hml]; rfl) (W := 0) (by show 2 * 0 + _ ≤ _; exact Nat.le_of_eq rfl) (by decide) (by decide) (by decide) (by decide) (hb hby at_67) (Ls := #[.val (.int i0), .val (.int i1), .val (.int i2), .val (.int i3), .val (.int (Int32.ofNat W)), .val (.int (Int32.ofNat H)), .val (.int (Int32.ofNat (W + H))), .val (.int (Int32.ofNat A)), .val (.int (Int32.ofNat B)), .val (.ref b1), .unset, .unset, .unset, .unset, .unset, .unset])
  generalize e5 : T5.heap = h5 at q5
  obtain ⟨rfl, N5q, K5q, F5q0, F5q1, F5q2, F5q3, F5q4, F5q5, F5q6, F5q7, F5q8⟩ := q5
  have N5 := Fr.app N4 N5q
  have Z5 : n0 ≤ h5.size := Nat.le_trans Z4 K5q.1
  refine Go.step (st5) ?_
  show Go _ _ _ _ _ _ _ T5 (mkF m 70 #[_, _, _, _, _, _, _, _, _, _, _, _, _, _, _, _] [])
  by_cases hA0 : A < H
  · by_cases hB0 : B < H
    · by_cases hAB : A = B
      · show Go _ _ _ _ _ _ _ T5 (mkF m 70 #[.val (.int i0), .val (.int i1), .val (.int i2), .val (.int i3), .val (.int (Int32.ofNat W)), .val (.int (Int32.ofNat H)), .val (.int (Int32.ofNat (W + H))), .val (.int (Int32.ofNat A)), .val (.int (Int32.ofNat B)), .val (.ref b1), .unset, .unset, .unset, .unset, .unset, .unset] [])
        refine Go.step (fun tt kk => XS.aload X5.here hx rfl (hb hby at_70) rfl rfl kk) ?_
        show Go _ _ _ _ _ _ _ T5 (mkF m 72 #[_, _, _, _, _, _, _, _, _, _, _, _, _, _, _, _] [(.ref b1)])
        refine Go.step (fun tt kk => XS.iload X5.here hx rfl (hb hby at_72) rfl kk) ?_
        show Go _ _ _ _ _ _ _ T5 (mkF m 74 #[_, _, _, _, _, _, _, _, _, _, _, _, _, _, _, _] [(.int (Int32.ofNat A)), (.ref b1)])
        obtain ⟨v22, T22, L22, X22, q22, st22⟩ := c_virt X5 hx hZ hown (y' := (⟨"com/example/gridwright/gridwright/engine/LargeDraft", "await", "(I)V"⟩ : MethodName)) (y := (⟨"com/example/gridwright/gridwright/engine/LargeDraft", "await", "(I)V"⟩ : MethodName)) (C := "com/example/gridwright/gridwright/engine/LargeDraft") (hw _ (List.mem_of_getElem? (i := 110) rfl)) (hw _ (List.mem_of_getElem? (i := 111) rfl)) (notFace_of_selects (args := #[]) (mvT hZ (hw _ (List.mem_of_getElem? (i := 113) rfl)))) (hw _ (List.mem_of_getElem? (i := 113) rfl)) (hw _ (List.mem_of_getElem? (i := 112) rfl)) (hw _ (List.mem_of_getElem? (i := 3) rfl)) (hw _ (List.mem_of_getElem? (i := 114) rfl)) (by decide) (a := b1) (argsL := [(.int (Int32.ofNat A))]) (rest := []) (rmAr l Z a0 hw [] b1 x2_2 H A ((H + 63) / 64) w0 h5 n0 Z5 F5q0 F5q1 F5q3 F5q7 gn_b1 gn_x2_2 ne_b1_x2_2 (by omega) (by omega) hA0 (by omega)) e5 F5q0 pd_8 rfl (by rw [hml]; rfl) (W := 0) (by show 2 * 0 + _ ≤ _; exact Nat.le_of_eq rfl) (by decide) (by decide) (by decide) (by decide) (hb hby at_74) (Ls := #[.val (.int i0), .val (.int i1), .val (.int i2), .val (.int i3), .val (.int (Int32.ofNat W)), .val (.int (Int32.ofNat H)), .val (.int (Int32.ofNat (W + H))), .val (.int (Int32.ofNat A)), .val (.int (Int32.ofNat B)), .val (.ref b1), .unset, .unset, .unset, .unset, .unset, .unset])
        generalize e22 : T22.heap = h22 at q22
        obtain ⟨rfl, N22q, K22q, F22q0⟩ := q22
        have N22 := Fr.app N5 N22q
        have Z22 : n0 ≤ h22.size := Nat.le_trans Z5 K22q.1
        refine Go.step (st22) ?_
        show Go _ _ _ _ _ _ _ T22 (mkF m 77 #[_, _, _, _, _, _, _, _, _, _, _, _, _, _, _, _] [])
        have V23 : AV Z h22 x2_2 .long ((H + 63) / 64) (lv (wd1 A)) := (w_or1 A) ▸ F22q0
        refine Go.step (fun tt kk => XS.aload X22.here hx rfl (hb hby at_77) rfl rfl kk) ?_
        show Go _ _ _ _ _ _ _ T22 (mkF m 79 #[_, _, _, _, _, _, _, _, _, _, _, _, _, _, _, _] [(.ref b1)])
        refine Go.step (fun tt kk => XS.iload X22.here hx rfl (hb hby at_79) rfl kk) ?_
        show Go _ _ _ _ _ _ _ T22 (mkF m 81 #[_, _, _, _, _, _, _, _, _, _, _, _, _, _, _, _] [(.int (Int32.ofNat B)), (.ref b1)])
        have f25 := (F5q0.keep K22q)
        have f26 := (F5q1.keep K22q (ninS ne_b1_x2_2 nin0))
        have f27 := (F5q3.keep K22q (ninS ne_b1_x2_2 nin0))
        obtain ⟨v24, T24, L24, X24, q24, st24⟩ := c_virt X22 hx hZ hown (y' := (⟨"com/example/gridwright/gridwright/engine/LargeDraft", "await", "(I)V"⟩ : MethodName)) (y := (⟨"com/example/gridwright/gridwright/engine/LargeDraft", "await", "(I)V"⟩ : MethodName)) (C := "com/example/gridwright/gridwright/engine/LargeDraft") (hw _ (List.mem_of_getElem? (i := 110) rfl)) (hw _ (List.mem_of_getElem? (i := 111) rfl)) (notFace_of_selects (args := #[]) (mvT hZ (hw _ (List.mem_of_getElem? (i := 113) rfl)))) (hw _ (List.mem_of_getElem? (i := 113) rfl)) (hw _ (List.mem_of_getElem? (i := 112) rfl)) (hw _ (List.mem_of_getElem? (i := 3) rfl)) (hw _ (List.mem_of_getElem? (i := 114) rfl)) (by decide) (a := b1) (argsL := [(.int (Int32.ofNat B))]) (rest := []) (rmAr l Z a0 hw [] b1 x2_2 H B ((H + 63) / 64) (wd1 A) h22 n0 Z22 f25 f26 f27 V23 gn_b1 gn_x2_2 ne_b1_x2_2 (by omega) (by omega) hB0 (by omega)) e22 f25 pd_8 rfl (by rw [hml]; rfl) (W := 0) (by show 2 * 0 + _ ≤ _; exact Nat.le_of_eq rfl) (by decide) (by decide) (by decide) (by decide) (hb hby at_81) (Ls := #[.val (.int i0), .val (.int i1), .val (.int i2), .val (.int i3), .val (.int (Int32.ofNat W)), .val (.int (Int32.ofNat H)), .val (.int (Int32.ofNat (W + H))), .val (.int (Int32.ofNat A)), .val (.int (Int32.ofNat B)), .val (.ref b1), .unset, .unset, .unset, .unset, .unset, .unset])
        generalize e24 : T24.heap = h24 at q24
        obtain ⟨rfl, N24q, K24q, F24q0⟩ := q24
        have N24 := Fr.app N22 N24q
        have Z24 : n0 ≤ h24.size := Nat.le_trans Z22 K24q.1
        refine Go.step (st24) ?_
        show Go _ _ _ _ _ _ _ T24 (mkF m 84 #[_, _, _, _, _, _, _, _, _, _, _, _, _, _, _, _] [])
        have V28 : AV Z h24 x2_2 .long ((H + 63) / 64) (lv (wd1 A)) := (show orAt (wd1 A) (B / 64) (sh (Int32.ofNat B)) = wd1 A by rw [← hAB, w_or2', w_same]) ▸ F24q0
        obtain ⟨s1, s2, s3, s4⟩ := w_one A (by omega)
        refine Go.step (fun tt kk => XS.aload X24.here hx rfl (hb hby at_84) rfl rfl kk) ?_
        show Go _ _ _ _ _ _ _ T24 (mkF m 86 #[_, _, _, _, _, _, _, _, _, _, _, _, _, _, _, _] [(.ref b1)])
        have f30 := (f25.keep K24q)
        have f31 := (f26.keep K24q (ninS ne_b1_x2_2 nin0))
        have f32 := ((F5q2.keep K22q (ninS ne_b1_x2_2 nin0)).keep K24q (ninS ne_b1_x2_2 nin0))
        have f33 := (f27.keep K24q (ninS ne_b1_x2_2 nin0))
        have f34 := ((F5q4.keep K22q (ninS ne_b1_x2_2 nin0)).keep K24q (ninS ne_b1_x2_2 nin0))
        have f35 := ((F5q5.keep K22q (ninS ne_b1_x2_2 nin0)).keep K24q (ninS ne_b1_x2_2 nin0))
        have f36 := ((F5q6.keep K22q (ninS ne_b1_x2_2 nin0)).keep K24q (ninS ne_b1_x2_2 nin0))
        have f37 := ((F5q8.keep K22q (ninS (Ne.symm ne_x2_2_x2_3) nin0)).keep K24q (ninS (Ne.symm ne_x2_2_x2_3) nin0))
        obtain ⟨v29, T29, L29, X29, q29, st29⟩ := c_virt X24 hx hZ hown (y' := (⟨"com/example/gridwright/gridwright/engine/LargeDraft", "next", "()I"⟩ : MethodName)) (y := (⟨"com/example/gridwright/gridwright/engine/LargeDraft", "next", "()I"⟩ : MethodName)) (C := "com/example/gridwright/gridwright/engine/LargeDraft") (hw _ (List.mem_of_getElem? (i := 115) rfl)) (hw _ (List.mem_of_getElem? (i := 116) rfl)) (notFace_of_selects (args := #[]) (mvT hZ (hw _ (List.mem_of_getElem? (i := 118) rfl)))) (hw _ (List.mem_of_getElem? (i := 118) rfl)) (hw _ (List.mem_of_getElem? (i := 117) rfl)) (hw _ (List.mem_of_getElem? (i := 3) rfl)) (hw _ (List.mem_of_getElem? (i := 119) rfl)) (by decide) (a := b1) (argsL := []) (rest := []) (rmNf1 l Z a0 hw [] b1 x2_2 x2_3 H ((H + 63) / 64) ((W + 63) / 64) 0 (A / 64) (0 : Int64) (wd1 A) w0 h24 n0 Z24 f30 f31 f32 f33 f34 f35 f36 V28 f37 gn_b1 gn_x2_2 gn_x2_3 ne_b1_x2_2 ne_b1_x2_3 ne_x2_2_x2_3 (by omega) (by omega) (by omega) (by omega) (fun j _ hj => s1 j (by omega)) s2) e24 f30 pd_5 rfl (by rw [hml]; rfl) (W := 0) (by show 2 * 0 + _ ≤ _; exact Nat.le_of_eq rfl) (by decide) (by decide) (by decide) (by decide) (hb hby at_86) (Ls := #[.val (.int i0), .val (.int i1), .val (.int i2), .val (.int i3), .val (.int (Int32.ofNat W)), .val (.int (Int32.ofNat H)), .val (.int (Int32.ofNat (W + H))), .val (.int (Int32.ofNat A)), .val (.int (Int32.ofNat B)), .val (.ref b1), .unset, .unset, .unset, .unset, .unset, .unset])
        generalize e29 : T29.heap = h29 at q29
        obtain ⟨x29_0, rfl, N29q, K29q, F29q0, F29q1, F29q2, F29q3, F29q4, F29q5, F29q6, F29q7, F29q8⟩ := q29
        have N29 := Fr.app N24 N29q
        have Z29 : n0 ≤ h29.size := Nat.le_trans Z24 K29q.1
        refine Go.step (st29) ?_
        show Go _ _ _ _ _ _ _ T29 (mkF m 89 #[_, _, _, _, _, _, _, _, _, _, _, _, _, _, _, _] [(.int ((64 : Int32) * Int32.ofNat (A / 64) + ntz ((wd1 A) (A / 64))))])
        rw [s3]
        show Go _ _ _ _ _ _ _ T29 (mkF m 89 #[.val (.int i0), .val (.int i1), .val (.int i2), .val (.int i3), .val (.int (Int32.ofNat W)), .val (.int (Int32.ofNat H)), .val (.int (Int32.ofNat (W + H))), .val (.int (Int32.ofNat A)), .val (.int (Int32.ofNat B)), .val (.ref b1), .unset, .unset, .unset, .unset, .unset, .unset] [(.int (Int32.ofNat A))])
        refine Go.step (fun tt kk => XS.istore X29.here hx rfl (hb hby at_89) rfl (l' := #[.val (.int i0), .val (.int i1), .val (.int i2), .val (.int i3), .val (.int (Int32.ofNat W)), .val (.int (Int32.ofNat H)), .val (.int (Int32.ofNat (W + H))), .val (.int (Int32.ofNat A)), .val (.int (Int32.ofNat B)), .val (.ref b1), .val (.int (Int32.ofNat A)), .unset, .unset, .unset, .unset, .unset]) rfl kk) ?_
        show Go _ _ _ _ _ _ _ T29 (mkF m 91 #[_, _, _, _, _, _, _, _, _, _, _, _, _, _, _, _] [])
        have V38 : AV Z h29 x2_2 .long ((H + 63) / 64) (lv w0) := s4 ▸ F29q7
        refine Go.step (fun tt kk => XS.aload X29.here hx rfl (hb hby at_91) rfl rfl kk) ?_
        show Go _ _ _ _ _ _ _ T29 (mkF m 93 #[_, _, _, _, _, _, _, _, _, _, _, _, _, _, _, _] [(.ref b1)])
        obtain ⟨v39, T39, L39, X39, q39, st39⟩ := c_virt X29 hx hZ hown (y' := (⟨"com/example/gridwright/gridwright/engine/LargeDraft", "next", "()I"⟩ : MethodName)) (y := (⟨"com/example/gridwright/gridwright/engine/LargeDraft", "next", "()I"⟩ : MethodName)) (C := "com/example/gridwright/gridwright/engine/LargeDraft") (hw _ (List.mem_of_getElem? (i := 115) rfl)) (hw _ (List.mem_of_getElem? (i := 116) rfl)) (notFace_of_selects (args := #[]) (mvT hZ (hw _ (List.mem_of_getElem? (i := 118) rfl)))) (hw _ (List.mem_of_getElem? (i := 118) rfl)) (hw _ (List.mem_of_getElem? (i := 117) rfl)) (hw _ (List.mem_of_getElem? (i := 3) rfl)) (hw _ (List.mem_of_getElem? (i := 119) rfl)) (by decide) (a := b1) (argsL := []) (rest := []) (rmNn1 l Z a0 hw [] b1 x2_2 x2_3 H ((H + 63) / 64) ((W + 63) / 64) (A / 64) 0 x29_0 w0 w0 h29 n0 Z29 F29q0 F29q1 F29q2 F29q3 F29q4 F29q5 F29q6 V38 F29q8 gn_b1 gn_x2_2 gn_x2_3 ne_b1_x2_2 ne_b1_x2_3 ne_x2_2_x2_3 (by omega) (by omega) (by omega) (fun _ _ _ => rfl) (fun _ _ _ => rfl)) e29 F29q0 pd_5 rfl (by rw [hml]; rfl) (W := 0) (by show 2 * 0 + _ ≤ _; exact Nat.le_of_eq rfl) (by decide) (by decide) (by decide) (by decide) (hb hby at_93) (Ls := #[.val (.int i0), .val (.int i1), .val (.int i2), .val (.int i3), .val (.int (Int32.ofNat W)), .val (.int (Int32.ofNat H)), .val (.int (Int32.ofNat (W + H))), .val (.int (Int32.ofNat A)), .val (.int (Int32.ofNat B)), .val (.ref b1), .val (.int (Int32.ofNat A)), .unset, .unset, .unset, .unset, .unset])
        generalize e39 : T39.heap = h39 at q39
        obtain ⟨x39_0, rfl, N39q, K39q, F39q0, F39q1, F39q2, F39q3, F39q4, F39q5, F39q6, F39q7, F39q8⟩ := q39
        have N39 := Fr.app N29 N39q
        have Z39 : n0 ≤ h39.size := Nat.le_trans Z29 K39q.1
        refine Go.step (st39) ?_
        show Go _ _ _ _ _ _ _ T39 (mkF m 96 #[_, _, _, _, _, _, _, _, _, _, _, _, _, _, _, _] [(.int (-1 : Int32))])
        refine Go.step (fun tt kk => XS.istore X39.here hx rfl (hb hby at_96) rfl (l' := #[.val (.int i0), .val (.int i1), .val (.int i2), .val (.int i3), .val (.int (Int32.ofNat W)), .val (.int (Int32.ofNat H)), .val (.int (Int32.ofNat (W + H))), .val (.int (Int32.ofNat A)), .val (.int (Int32.ofNat B)), .val (.ref b1), .val (.int (Int32.ofNat A)), .val (.int (-1 : Int32)), .unset, .unset, .unset, .unset]) rfl kk) ?_
        show Go _ _ _ _ _ _ _ T39 (mkF m 98 #[_, _, _, _, _, _, _, _, _, _, _, _, _, _, _, _] [])
        refine Go.step (fun tt kk => XS.aload X39.here hx rfl (hb hby at_98) rfl rfl kk) ?_
        show Go _ _ _ _ _ _ _ T39 (mkF m 100 #[_, _, _, _, _, _, _, _, _, _, _, _, _, _, _, _] [(.ref b1)])
        obtain ⟨v40, T40, L40, X40, q40, st40⟩ := c_virt X39 hx hZ hown (y' := (⟨"com/example/gridwright/gridwright/engine/LargeDraft", "next", "()I"⟩ : MethodName)) (y := (⟨"com/example/gridwright/gridwright/engine/LargeDraft", "next", "()I"⟩ : MethodName)) (C := "com/example/gridwright/gridwright/engine/LargeDraft") (hw _ (List.mem_of_getElem? (i := 115) rfl)) (hw _ (List.mem_of_getElem? (i := 116) rfl)) (notFace_of_selects (args := #[]) (mvT hZ (hw _ (List.mem_of_getElem? (i := 118) rfl)))) (hw _ (List.mem_of_getElem? (i := 118) rfl)) (hw _ (List.mem_of_getElem? (i := 117) rfl)) (hw _ (List.mem_of_getElem? (i := 3) rfl)) (hw _ (List.mem_of_getElem? (i := 119) rfl)) (by decide) (a := b1) (argsL := []) (rest := []) (rmNn1 l Z a0 hw [] b1 x2_2 x2_3 H ((H + 63) / 64) ((W + 63) / 64) 0 0 x39_0 w0 w0 h39 n0 Z39 F39q0 F39q1 F39q2 F39q3 F39q4 F39q5 F39q6 F39q7 F39q8 gn_b1 gn_x2_2 gn_x2_3 ne_b1_x2_2 ne_b1_x2_3 ne_x2_2_x2_3 (by omega) (by omega) (by omega) (fun _ _ _ => rfl) (fun _ _ _ => rfl)) e39 F39q0 pd_5 rfl (by rw [hml]; rfl) (W := 0) (by show 2 * 0 + _ ≤ _; exact Nat.le_of_eq rfl) (by decide) (by decide) (by decide) (by decide) (hb hby at_100) (Ls := #[.val (.int i0), .val (.int i1), .val (.int i2), .val (.int i3), .val (.int (Int32.ofNat W)), .val (.int (Int32.ofNat H)), .val (.int (Int32.ofNat (W + H))), .val (.int (Int32.ofNat A)), .val (.int (Int32.ofNat B)), .val (.ref b1), .val (.int (Int32.ofNat A)), .val (.int (-1 : Int32)), .unset, .unset, .unset, .unset])
        generalize e40 : T40.heap = h40 at q40
        obtain ⟨x40_0, rfl, N40q, K40q, F40q0, F40q1, F40q2, F40q3, F40q4, F40q5, F40q6, F40q7, F40q8⟩ := q40
        have N40 := Fr.app N39 N40q
        have Z40 : n0 ≤ h40.size := Nat.le_trans Z39 K40q.1
        refine Go.step (st40) ?_
        show Go _ _ _ _ _ _ _ T40 (mkF m 103 #[_, _, _, _, _, _, _, _, _, _, _, _, _, _, _, _] [(.int (-1 : Int32))])
        refine Go.step (fun tt kk => XS.istore X40.here hx rfl (hb hby at_103) rfl (l' := #[.val (.int i0), .val (.int i1), .val (.int i2), .val (.int i3), .val (.int (Int32.ofNat W)), .val (.int (Int32.ofNat H)), .val (.int (Int32.ofNat (W + H))), .val (.int (Int32.ofNat A)), .val (.int (Int32.ofNat B)), .val (.ref b1), .val (.int (Int32.ofNat A)), .val (.int (-1 : Int32)), .val (.int (-1 : Int32)), .unset, .unset, .unset]) rfl kk) ?_
        show Go _ _ _ _ _ _ _ T40 (mkF m 105 #[_, _, _, _, _, _, _, _, _, _, _, _, _, _, _, _] [])
        refine Go.step (fun tt kk => XS.iload X40.here hx rfl (hb hby at_105) rfl kk) ?_
        show Go _ _ _ _ _ _ _ T40 (mkF m 107 #[_, _, _, _, _, _, _, _, _, _, _, _, _, _, _, _] [(.int (Int32.ofNat A))])
        refine Go.step (fun tt kk => XS.iload X40.here hx rfl (hb hby at_107) rfl kk) ?_
        show Go _ _ _ _ _ _ _ T40 (mkF m 109 #[_, _, _, _, _, _, _, _, _, _, _, _, _, _, _, _] [(.int (Int32.ofNat B)), (.int (Int32.ofNat A))])
        obtain ⟨v41, T41, L41, X41, q41, st41⟩ := c_static X40 hx hZ hown (y := (⟨"java/lang/Math", "min", "(II)I"⟩ : MethodName)) (hw _ (List.mem_of_getElem? (i := 131) rfl)) (hw _ (List.mem_of_getElem? (i := 132) rfl)) (hw _ (List.mem_of_getElem? (i := 21) rfl)) (hw _ (List.mem_of_getElem? (i := 133) rfl)) (by decide) (argsL := [(.int (Int32.ofNat A)), (.int (Int32.ofNat B))]) (rest := []) (rmmn l Z a0 hw [] (Int32.ofNat A) (Int32.ofNat B) h40 n0 Z40) e40 pd_0 rfl (by rw [hml]; rfl) (W := 0) (by show 2 * 0 + _ ≤ _; exact Nat.le_of_eq rfl) (by decide) (by decide) (by decide) (by decide) (hb hby at_109) (Ls := #[.val (.int i0), .val (.int i1), .val (.int i2), .val (.int i3), .val (.int (Int32.ofNat W)), .val (.int (Int32.ofNat H)), .val (.int (Int32.ofNat (W + H))), .val (.int (Int32.ofNat A)), .val (.int (Int32.ofNat B)), .val (.ref b1), .val (.int (Int32.ofNat A)), .val (.int (-1 : Int32)), .val (.int (-1 : Int32)), .unset, .unset, .unset])
        obtain ⟨rfl, rfl, e41⟩ := q41
        have N41 := Fr.app N40 (Fr.nil n0)
        refine Go.step (st41) ?_
        show Go _ _ _ _ _ _ _ T41 (mkF m 112 #[_, _, _, _, _, _, _, _, _, _, _, _, _, _, _, _] [(.int (mn (Int32.ofNat A) (Int32.ofNat B)))])
        rw [own_min _ _ (by omega) (by omega)]
        show Go _ _ _ _ _ _ _ T41 (mkF m 112 #[.val (.int i0), .val (.int i1), .val (.int i2), .val (.int i3), .val (.int (Int32.ofNat W)), .val (.int (Int32.ofNat H)), .val (.int (Int32.ofNat (W + H))), .val (.int (Int32.ofNat A)), .val (.int (Int32.ofNat B)), .val (.ref b1), .val (.int (Int32.ofNat A)), .val (.int (-1 : Int32)), .val (.int (-1 : Int32)), .unset, .unset, .unset] [(.int (Int32.ofNat (min A B)))])
        refine Go.step (fun tt kk => XS.istore X41.here hx rfl (hb hby at_112) rfl (l' := #[.val (.int i0), .val (.int i1), .val (.int i2), .val (.int i3), .val (.int (Int32.ofNat W)), .val (.int (Int32.ofNat H)), .val (.int (Int32.ofNat (W + H))), .val (.int (Int32.ofNat A)), .val (.int (Int32.ofNat B)), .val (.ref b1), .val (.int (Int32.ofNat A)), .val (.int (-1 : Int32)), .val (.int (-1 : Int32)), .val (.int (Int32.ofNat (min A B))), .unset, .unset]) rfl kk) ?_
        show Go _ _ _ _ _ _ _ T41 (mkF m 114 #[_, _, _, _, _, _, _, _, _, _, _, _, _, _, _, _] [])
        refine Go.step (fun tt kk => XS.iload X41.here hx rfl (hb hby at_114) rfl kk) ?_
        show Go _ _ _ _ _ _ _ T41 (mkF m 116 #[_, _, _, _, _, _, _, _, _, _, _, _, _, _, _, _] [(.int (Int32.ofNat A))])
        refine Go.step (fun tt kk => XS.iload X41.here hx rfl (hb hby at_116) rfl kk) ?_
        show Go _ _ _ _ _ _ _ T41 (mkF m 118 #[_, _, _, _, _, _, _, _, _, _, _, _, _, _, _, _] [(.int (Int32.ofNat B)), (.int (Int32.ofNat A))])
        obtain ⟨v42, T42, L42, X42, q42, st42⟩ := c_static X41 hx hZ hown (y := (⟨"java/lang/Math", "max", "(II)I"⟩ : MethodName)) (hw _ (List.mem_of_getElem? (i := 134) rfl)) (hw _ (List.mem_of_getElem? (i := 20) rfl)) (hw _ (List.mem_of_getElem? (i := 21) rfl)) (hw _ (List.mem_of_getElem? (i := 22) rfl)) (by decide) (argsL := [(.int (Int32.ofNat A)), (.int (Int32.ofNat B))]) (rest := []) (rmmx l Z a0 hw [] (Int32.ofNat A) (Int32.ofNat B) h40 n0 Z40) e41 pd_0 rfl (by rw [hml]; rfl) (W := 0) (by show 2 * 0 + _ ≤ _; exact Nat.le_of_eq rfl) (by decide) (by decide) (by decide) (by decide) (hb hby at_118) (Ls := #[.val (.int i0), .val (.int i1), .val (.int i2), .val (.int i3), .val (.int (Int32.ofNat W)), .val (.int (Int32.ofNat H)), .val (.int (Int32.ofNat (W + H))), .val (.int (Int32.ofNat A)), .val (.int (Int32.ofNat B)), .val (.ref b1), .val (.int (Int32.ofNat A)), .val (.int (-1 : Int32)), .val (.int (-1 : Int32)), .val (.int (Int32.ofNat (min A B))), .unset, .unset])
        obtain ⟨rfl, rfl, e42⟩ := q42
        have N42 := Fr.app N41 (Fr.nil n0)
        refine Go.step (st42) ?_
        show Go _ _ _ _ _ _ _ T42 (mkF m 121 #[_, _, _, _, _, _, _, _, _, _, _, _, _, _, _, _] [(.int (mx (Int32.ofNat A) (Int32.ofNat B)))])
        rw [own_max _ _ (by omega) (by omega)]
        show Go _ _ _ _ _ _ _ T42 (mkF m 121 #[.val (.int i0), .val (.int i1), .val (.int i2), .val (.int i3), .val (.int (Int32.ofNat W)), .val (.int (Int32.ofNat H)), .val (.int (Int32.ofNat (W + H))), .val (.int (Int32.ofNat A)), .val (.int (Int32.ofNat B)), .val (.ref b1), .val (.int (Int32.ofNat A)), .val (.int (-1 : Int32)), .val (.int (-1 : Int32)), .val (.int (Int32.ofNat (min A B))), .unset, .unset] [(.int (Int32.ofNat (max A B)))])
        refine Go.step (fun tt kk => XS.istore X42.here hx rfl (hb hby at_121) rfl (l' := #[.val (.int i0), .val (.int i1), .val (.int i2), .val (.int i3), .val (.int (Int32.ofNat W)), .val (.int (Int32.ofNat H)), .val (.int (Int32.ofNat (W + H))), .val (.int (Int32.ofNat A)), .val (.int (Int32.ofNat B)), .val (.ref b1), .val (.int (Int32.ofNat A)), .val (.int (-1 : Int32)), .val (.int (-1 : Int32)), .val (.int (Int32.ofNat (min A B))), .val (.int (Int32.ofNat (max A B))), .unset]) rfl kk) ?_
        show Go _ _ _ _ _ _ _ T42 (mkF m 123 #[_, _, _, _, _, _, _, _, _, _, _, _, _, _, _, _] [])
        refine Go.step (fun tt kk => XS.iload X42.here hx rfl (hb hby at_123) rfl kk) ?_
        show Go _ _ _ _ _ _ _ T42 (mkF m 125 #[_, _, _, _, _, _, _, _, _, _, _, _, _, _, _, _] [(.int (Int32.ofNat (min A B)))])
        refine Go.step (fun tt kk => XS.iload X42.here hx rfl (hb hby at_125) rfl kk) ?_
        show Go _ _ _ _ _ _ _ T42 (mkF m 127 #[_, _, _, _, _, _, _, _, _, _, _, _, _, _, _, _] [(.int (Int32.ofNat (max A B))), (.int (Int32.ofNat (min A B)))])
        refine Go.step (fun tt kk => XS.icmpNo X42.here hx rfl (hb hby at_127) rfl (teq ((own_eq _ _ (by omega) (by omega)).mpr (by omega))).2 kk) ?_
        show Go _ _ _ _ _ _ _ T42 (mkF m 130 #[_, _, _, _, _, _, _, _, _, _, _, _, _, _, _, _] [])
        refine Go.step (fun tt kk => XS.iconst X42.here hx rfl (hb hby at_130) kk) ?_
        show Go _ _ _ _ _ _ _ T42 (mkF m 131 #[_, _, _, _, _, _, _, _, _, _, _, _, _, _, _, _] [(.int (-1 : Int32))])
        refine Go.step (fun tt kk => XS.goto X42.here hx rfl (pc0 := 131) (pc' := 136) rfl (hb hby at_131) (by decide) (by decide) kk) ?_
        show Go _ _ _ _ _ _ _ T42 (mkF m 136 #[_, _, _, _, _, _, _, _, _, _, _, _, _, _, _, _] [(.int (-1 : Int32))])
        refine Go.step (fun tt kk => XS.istore X42.here hx rfl (hb hby at_136) rfl (l' := #[.val (.int i0), .val (.int i1), .val (.int i2), .val (.int i3), .val (.int (Int32.ofNat W)), .val (.int (Int32.ofNat H)), .val (.int (Int32.ofNat (W + H))), .val (.int (Int32.ofNat A)), .val (.int (Int32.ofNat B)), .val (.ref b1), .val (.int (Int32.ofNat A)), .val (.int (-1 : Int32)), .val (.int (-1 : Int32)), .val (.int (Int32.ofNat (min A B))), .val (.int (Int32.ofNat (max A B))), .val (.int (-1 : Int32))]) rfl kk) ?_
        show Go _ _ _ _ _ _ _ T42 (mkF m 138 #[_, _, _, _, _, _, _, _, _, _, _, _, _, _, _, _] [])
        refine Go.step (fun tt kk => XS.iload X42.here hx rfl (hb hby at_138) rfl kk) ?_
        show Go _ _ _ _ _ _ _ T42 (mkF m 140 #[_, _, _, _, _, _, _, _, _, _, _, _, _, _, _, _] [(.int (Int32.ofNat A))])
        refine Go.step (fun tt kk => XS.iload X42.here hx rfl (hb hby at_140) rfl kk) ?_
        show Go _ _ _ _ _ _ _ T42 (mkF m 142 #[_, _, _, _, _, _, _, _, _, _, _, _, _, _, _, _] [(.int (Int32.ofNat (min A B))), (.int (Int32.ofNat A))])
        refine Go.step (fun tt kk => XS.icmpNo X42.here hx rfl (hb hby at_142) rfl (teq ((own_eq _ _ (by omega) (by omega)).mpr (by omega))).2 kk) ?_
        show Go _ _ _ _ _ _ _ T42 (mkF m 145 #[_, _, _, _, _, _, _, _, _, _, _, _, _, _, _, _] [])
        refine Go.step (fun tt kk => XS.iload X42.here hx rfl (hb hby at_145) rfl kk) ?_
        show Go _ _ _ _ _ _ _ T42 (mkF m 147 #[_, _, _, _, _, _, _, _, _, _, _, _, _, _, _, _] [(.int (-1 : Int32))])
        refine Go.step (fun tt kk => XS.iload X42.here hx rfl (hb hby at_147) rfl kk) ?_
        show Go _ _ _ _ _ _ _ T42 (mkF m 149 #[_, _, _, _, _, _, _, _, _, _, _, _, _, _, _, _] [(.int (-1 : Int32)), (.int (-1 : Int32))])
        refine Go.step (fun tt kk => XS.icmpNo X42.here hx rfl (hb hby at_149) rfl (teq rfl).2 kk) ?_
        show Go _ _ _ _ _ _ _ T42 (mkF m 152 #[_, _, _, _, _, _, _, _, _, _, _, _, _, _, _, _] [])
        refine Go.step (fun tt kk => XS.iload X42.here hx rfl (hb hby at_152) rfl kk) ?_
        show Go _ _ _ _ _ _ _ T42 (mkF m 154 #[_, _, _, _, _, _, _, _, _, _, _, _, _, _, _, _] [(.int (-1 : Int32))])
        refine Go.step (fun tt kk => XS.iconst X42.here hx rfl (hb hby at_154) kk) ?_
        show Go _ _ _ _ _ _ _ T42 (mkF m 155 #[_, _, _, _, _, _, _, _, _, _, _, _, _, _, _, _] [(.int (-1 : Int32)), (.int (-1 : Int32))])
        refine Go.step (fun tt kk => XS.icmpNo X42.here hx rfl (hb hby at_155) rfl (teq rfl).2 kk) ?_
        show Go _ _ _ _ _ _ _ T42 (mkF m 158 #[_, _, _, _, _, _, _, _, _, _, _, _, _, _, _, _] [])
        refine Go.step (fun tt kk => XS.iconst X42.here hx rfl (hb hby at_158) kk) ?_
        show Go _ _ _ _ _ _ _ T42 (mkF m 159 #[_, _, _, _, _, _, _, _, _, _, _, _, _, _, _, _] [(.int (1 : Int32))])
        refine Go.step (fun tt kk => XS.goto X42.here hx rfl (pc0 := 159) (pc' := 163) rfl (hb hby at_159) (by decide) (by decide) kk) ?_
        show Go _ _ _ _ _ _ _ T42 (mkF m 163 #[_, _, _, _, _, _, _, _, _, _, _, _, _, _, _, _] [(.int (1 : Int32))])
        refine go_retN X42 hx (t := .boolean) hret (by simp) hlk (hb hby at_163) (w := (1 : Int32)) rfl ?_ (by decide) (by decide)
        try rw [e42]
        exact ⟨rfl, N42⟩
      · show Go _ _ _ _ _ _ _ T5 (mkF m 70 #[.val (.int i0), .val (.int i1), .val (.int i2), .val (.int i3), .val (.int (Int32.ofNat W)), .val (.int (Int32.ofNat H)), .val (.int (Int32.ofNat (W + H))), .val (.int (Int32.ofNat A)), .val (.int (Int32.ofNat B)), .val (.ref b1), .unset, .unset, .unset, .unset, .unset, .unset] [])
        refine Go.step (fun tt kk => XS.aload X5.here hx rfl (hb hby at_70) rfl rfl kk) ?_
        show Go _ _ _ _ _ _ _ T5 (mkF m 72 #[_, _, _, _, _, _, _, _, _, _, _, _, _, _, _, _] [(.ref b1)])
        refine Go.step (fun tt kk => XS.iload X5.here hx rfl (hb hby at_72) rfl kk) ?_
        show Go _ _ _ _ _ _ _ T5 (mkF m 74 #[_, _, _, _, _, _, _, _, _, _, _, _, _, _, _, _] [(.int (Int32.ofNat A)), (.ref b1)])
        obtain ⟨v43, T43, L43, X43, q43, st43⟩ := c_virt X5 hx hZ hown (y' := (⟨"com/example/gridwright/gridwright/engine/LargeDraft", "await", "(I)V"⟩ : MethodName)) (y := (⟨"com/example/gridwright/gridwright/engine/LargeDraft", "await", "(I)V"⟩ : MethodName)) (C := "com/example/gridwright/gridwright/engine/LargeDraft") (hw _ (List.mem_of_getElem? (i := 110) rfl)) (hw _ (List.mem_of_getElem? (i := 111) rfl)) (notFace_of_selects (args := #[]) (mvT hZ (hw _ (List.mem_of_getElem? (i := 113) rfl)))) (hw _ (List.mem_of_getElem? (i := 113) rfl)) (hw _ (List.mem_of_getElem? (i := 112) rfl)) (hw _ (List.mem_of_getElem? (i := 3) rfl)) (hw _ (List.mem_of_getElem? (i := 114) rfl)) (by decide) (a := b1) (argsL := [(.int (Int32.ofNat A))]) (rest := []) (rmAr l Z a0 hw [] b1 x2_2 H A ((H + 63) / 64) w0 h5 n0 Z5 F5q0 F5q1 F5q3 F5q7 gn_b1 gn_x2_2 ne_b1_x2_2 (by omega) (by omega) hA0 (by omega)) e5 F5q0 pd_8 rfl (by rw [hml]; rfl) (W := 0) (by show 2 * 0 + _ ≤ _; exact Nat.le_of_eq rfl) (by decide) (by decide) (by decide) (by decide) (hb hby at_74) (Ls := #[.val (.int i0), .val (.int i1), .val (.int i2), .val (.int i3), .val (.int (Int32.ofNat W)), .val (.int (Int32.ofNat H)), .val (.int (Int32.ofNat (W + H))), .val (.int (Int32.ofNat A)), .val (.int (Int32.ofNat B)), .val (.ref b1), .unset, .unset, .unset, .unset, .unset, .unset])
        generalize e43 : T43.heap = h43 at q43
        obtain ⟨rfl, N43q, K43q, F43q0⟩ := q43
        have N43 := Fr.app N5 N43q
        have Z43 : n0 ≤ h43.size := Nat.le_trans Z5 K43q.1
        refine Go.step (st43) ?_
        show Go _ _ _ _ _ _ _ T43 (mkF m 77 #[_, _, _, _, _, _, _, _, _, _, _, _, _, _, _, _] [])
        have V44 : AV Z h43 x2_2 .long ((H + 63) / 64) (lv (wd1 A)) := (w_or1 A) ▸ F43q0
        refine Go.step (fun tt kk => XS.aload X43.here hx rfl (hb hby at_77) rfl rfl kk) ?_
        show Go _ _ _ _ _ _ _ T43 (mkF m 79 #[_, _, _, _, _, _, _, _, _, _, _, _, _, _, _, _] [(.ref b1)])
        refine Go.step (fun tt kk => XS.iload X43.here hx rfl (hb hby at_79) rfl kk) ?_
        show Go _ _ _ _ _ _ _ T43 (mkF m 81 #[_, _, _, _, _, _, _, _, _, _, _, _, _, _, _, _] [(.int (Int32.ofNat B)), (.ref b1)])
        have f46 := (F5q0.keep K43q)
        have f47 := (F5q1.keep K43q (ninS ne_b1_x2_2 nin0))
        have f48 := (F5q3.keep K43q (ninS ne_b1_x2_2 nin0))
        obtain ⟨v45, T45, L45, X45, q45, st45⟩ := c_virt X43 hx hZ hown (y' := (⟨"com/example/gridwright/gridwright/engine/LargeDraft", "await", "(I)V"⟩ : MethodName)) (y := (⟨"com/example/gridwright/gridwright/engine/LargeDraft", "await", "(I)V"⟩ : MethodName)) (C := "com/example/gridwright/gridwright/engine/LargeDraft") (hw _ (List.mem_of_getElem? (i := 110) rfl)) (hw _ (List.mem_of_getElem? (i := 111) rfl)) (notFace_of_selects (args := #[]) (mvT hZ (hw _ (List.mem_of_getElem? (i := 113) rfl)))) (hw _ (List.mem_of_getElem? (i := 113) rfl)) (hw _ (List.mem_of_getElem? (i := 112) rfl)) (hw _ (List.mem_of_getElem? (i := 3) rfl)) (hw _ (List.mem_of_getElem? (i := 114) rfl)) (by decide) (a := b1) (argsL := [(.int (Int32.ofNat B))]) (rest := []) (rmAr l Z a0 hw [] b1 x2_2 H B ((H + 63) / 64) (wd1 A) h43 n0 Z43 f46 f47 f48 V44 gn_b1 gn_x2_2 ne_b1_x2_2 (by omega) (by omega) hB0 (by omega)) e43 f46 pd_8 rfl (by rw [hml]; rfl) (W := 0) (by show 2 * 0 + _ ≤ _; exact Nat.le_of_eq rfl) (by decide) (by decide) (by decide) (by decide) (hb hby at_81) (Ls := #[.val (.int i0), .val (.int i1), .val (.int i2), .val (.int i3), .val (.int (Int32.ofNat W)), .val (.int (Int32.ofNat H)), .val (.int (Int32.ofNat (W + H))), .val (.int (Int32.ofNat A)), .val (.int (Int32.ofNat B)), .val (.ref b1), .unset, .unset, .unset, .unset, .unset, .unset])
        generalize e45 : T45.heap = h45 at q45
        obtain ⟨rfl, N45q, K45q, F45q0⟩ := q45
        have N45 := Fr.app N43 N45q
        have Z45 : n0 ≤ h45.size := Nat.le_trans Z43 K45q.1
        refine Go.step (st45) ?_
        show Go _ _ _ _ _ _ _ T45 (mkF m 84 #[_, _, _, _, _, _, _, _, _, _, _, _, _, _, _, _] [])
        have V49 : AV Z h45 x2_2 .long ((H + 63) / 64) (lv (wd2 (min A B) (max A B))) := (w_or2 A B) ▸ F45q0
        obtain ⟨s1, s2, s3, s4⟩ := w_two (min A B) (max A B) (by omega) (by omega)
        obtain ⟨u1, u2, u3, u4⟩ := w_one (max A B) (by omega)
        refine Go.step (fun tt kk => XS.aload X45.here hx rfl (hb hby at_84) rfl rfl kk) ?_
        show Go _ _ _ _ _ _ _ T45 (mkF m 86 #[_, _, _, _, _, _, _, _, _, _, _, _, _, _, _, _] [(.ref b1)])
        have f51 := (f46.keep K45q)
        have f52 := (f47.keep K45q (ninS ne_b1_x2_2 nin0))
        have f53 := ((F5q2.keep K43q (ninS ne_b1_x2_2 nin0)).keep K45q (ninS ne_b1_x2_2 nin0))
        have f54 := (f48.keep K45q (ninS ne_b1_x2_2 nin0))
        have f55 := ((F5q4.keep K43q (ninS ne_b1_x2_2 nin0)).keep K45q (ninS ne_b1_x2_2 nin0))
        have f56 := ((F5q5.keep K43q (ninS ne_b1_x2_2 nin0)).keep K45q (ninS ne_b1_x2_2 nin0))
        have f57 := ((F5q6.keep K43q (ninS ne_b1_x2_2 nin0)).keep K45q (ninS ne_b1_x2_2 nin0))
        have f58 := ((F5q8.keep K43q (ninS (Ne.symm ne_x2_2_x2_3) nin0)).keep K45q (ninS (Ne.symm ne_x2_2_x2_3) nin0))
        obtain ⟨v50, T50, L50, X50, q50, st50⟩ := c_virt X45 hx hZ hown (y' := (⟨"com/example/gridwright/gridwright/engine/LargeDraft", "next", "()I"⟩ : MethodName)) (y := (⟨"com/example/gridwright/gridwright/engine/LargeDraft", "next", "()I"⟩ : MethodName)) (C := "com/example/gridwright/gridwright/engine/LargeDraft") (hw _ (List.mem_of_getElem? (i := 115) rfl)) (hw _ (List.mem_of_getElem? (i := 116) rfl)) (notFace_of_selects (args := #[]) (mvT hZ (hw _ (List.mem_of_getElem? (i := 118) rfl)))) (hw _ (List.mem_of_getElem? (i := 118) rfl)) (hw _ (List.mem_of_getElem? (i := 117) rfl)) (hw _ (List.mem_of_getElem? (i := 3) rfl)) (hw _ (List.mem_of_getElem? (i := 119) rfl)) (by decide) (a := b1) (argsL := []) (rest := []) (rmNf1 l Z a0 hw [] b1 x2_2 x2_3 H ((H + 63) / 64) ((W + 63) / 64) 0 ((min A B) / 64) (0 : Int64) (wd2 (min A B) (max A B)) w0 h45 n0 Z45 f51 f52 f53 f54 f55 f56 f57 V49 f58 gn_b1 gn_x2_2 gn_x2_3 ne_b1_x2_2 ne_b1_x2_3 ne_x2_2_x2_3 (by omega) (by omega) (by omega) (by omega) (fun j _ hj => s1 j hj) s2) e45 f51 pd_5 rfl (by rw [hml]; rfl) (W := 0) (by show 2 * 0 + _ ≤ _; exact Nat.le_of_eq rfl) (by decide) (by decide) (by decide) (by decide) (hb hby at_86) (Ls := #[.val (.int i0), .val (.int i1), .val (.int i2), .val (.int i3), .val (.int (Int32.ofNat W)), .val (.int (Int32.ofNat H)), .val (.int (Int32.ofNat (W + H))), .val (.int (Int32.ofNat A)), .val (.int (Int32.ofNat B)), .val (.ref b1), .unset, .unset, .unset, .unset, .unset, .unset])
        generalize e50 : T50.heap = h50 at q50
        obtain ⟨x50_0, rfl, N50q, K50q, F50q0, F50q1, F50q2, F50q3, F50q4, F50q5, F50q6, F50q7, F50q8⟩ := q50
        have N50 := Fr.app N45 N50q
        have Z50 : n0 ≤ h50.size := Nat.le_trans Z45 K50q.1
        refine Go.step (st50) ?_
        show Go _ _ _ _ _ _ _ T50 (mkF m 89 #[_, _, _, _, _, _, _, _, _, _, _, _, _, _, _, _] [(.int ((64 : Int32) * Int32.ofNat ((min A B) / 64) + ntz ((wd2 (min A B) (max A B)) ((min A B) / 64))))])
        rw [s3]
        show Go _ _ _ _ _ _ _ T50 (mkF m 89 #[.val (.int i0), .val (.int i1), .val (.int i2), .val (.int i3), .val (.int (Int32.ofNat W)), .val (.int (Int32.ofNat H)), .val (.int (Int32.ofNat (W + H))), .val (.int (Int32.ofNat A)), .val (.int (Int32.ofNat B)), .val (.ref b1), .unset, .unset, .unset, .unset, .unset, .unset] [(.int (Int32.ofNat (min A B)))])
        refine Go.step (fun tt kk => XS.istore X50.here hx rfl (hb hby at_89) rfl (l' := #[.val (.int i0), .val (.int i1), .val (.int i2), .val (.int i3), .val (.int (Int32.ofNat W)), .val (.int (Int32.ofNat H)), .val (.int (Int32.ofNat (W + H))), .val (.int (Int32.ofNat A)), .val (.int (Int32.ofNat B)), .val (.ref b1), .val (.int (Int32.ofNat (min A B))), .unset, .unset, .unset, .unset, .unset]) rfl kk) ?_
        show Go _ _ _ _ _ _ _ T50 (mkF m 91 #[_, _, _, _, _, _, _, _, _, _, _, _, _, _, _, _] [])
        have V59 : AV Z h50 x2_2 .long ((H + 63) / 64) (lv (wd1 (max A B))) := s4 ▸ F50q7
        refine Go.step (fun tt kk => XS.aload X50.here hx rfl (hb hby at_91) rfl rfl kk) ?_
        show Go _ _ _ _ _ _ _ T50 (mkF m 93 #[_, _, _, _, _, _, _, _, _, _, _, _, _, _, _, _] [(.ref b1)])
        obtain ⟨v60, T60, L60, X60, q60, st60⟩ := c_virt X50 hx hZ hown (y' := (⟨"com/example/gridwright/gridwright/engine/LargeDraft", "next", "()I"⟩ : MethodName)) (y := (⟨"com/example/gridwright/gridwright/engine/LargeDraft", "next", "()I"⟩ : MethodName)) (C := "com/example/gridwright/gridwright/engine/LargeDraft") (hw _ (List.mem_of_getElem? (i := 115) rfl)) (hw _ (List.mem_of_getElem? (i := 116) rfl)) (notFace_of_selects (args := #[]) (mvT hZ (hw _ (List.mem_of_getElem? (i := 118) rfl)))) (hw _ (List.mem_of_getElem? (i := 118) rfl)) (hw _ (List.mem_of_getElem? (i := 117) rfl)) (hw _ (List.mem_of_getElem? (i := 3) rfl)) (hw _ (List.mem_of_getElem? (i := 119) rfl)) (by decide) (a := b1) (argsL := []) (rest := []) (rmNf1 l Z a0 hw [] b1 x2_2 x2_3 H ((H + 63) / 64) ((W + 63) / 64) ((min A B) / 64) ((max A B) / 64) x50_0 (wd1 (max A B)) w0 h50 n0 Z50 F50q0 F50q1 F50q2 F50q3 F50q4 F50q5 F50q6 V59 F50q8 gn_b1 gn_x2_2 gn_x2_3 ne_b1_x2_2 ne_b1_x2_3 ne_x2_2_x2_3 (by omega) (by omega) (by omega) (by omega) (fun j _ hj => u1 j (by omega)) u2) e50 F50q0 pd_5 rfl (by rw [hml]; rfl) (W := 0) (by show 2 * 0 + _ ≤ _; exact Nat.le_of_eq rfl) (by decide) (by decide) (by decide) (by decide) (hb hby at_93) (Ls := #[.val (.int i0), .val (.int i1), .val (.int i2), .val (.int i3), .val (.int (Int32.ofNat W)), .val (.int (Int32.ofNat H)), .val (.int (Int32.ofNat (W + H))), .val (.int (Int32.ofNat A)), .val (.int (Int32.ofNat B)), .val (.ref b1), .val (.int (Int32.ofNat (min A B))), .unset, .unset, .unset, .unset, .unset])
        generalize e60 : T60.heap = h60 at q60
        obtain ⟨x60_0, rfl, N60q, K60q, F60q0, F60q1, F60q2, F60q3, F60q4, F60q5, F60q6, F60q7, F60q8⟩ := q60
        have N60 := Fr.app N50 N60q
        have Z60 : n0 ≤ h60.size := Nat.le_trans Z50 K60q.1
        refine Go.step (st60) ?_
        show Go _ _ _ _ _ _ _ T60 (mkF m 96 #[_, _, _, _, _, _, _, _, _, _, _, _, _, _, _, _] [(.int ((64 : Int32) * Int32.ofNat ((max A B) / 64) + ntz ((wd1 (max A B)) ((max A B) / 64))))])
        rw [u3]
        show Go _ _ _ _ _ _ _ T60 (mkF m 96 #[.val (.int i0), .val (.int i1), .val (.int i2), .val (.int i3), .val (.int (Int32.ofNat W)), .val (.int (Int32.ofNat H)), .val (.int (Int32.ofNat (W + H))), .val (.int (Int32.ofNat A)), .val (.int (Int32.ofNat B)), .val (.ref b1), .val (.int (Int32.ofNat (min A B))), .unset, .unset, .unset, .unset, .unset] [(.int (Int32.ofNat (max A B)))])
        refine Go.step (fun tt kk => XS.istore X60.here hx rfl (hb hby at_96) rfl (l' := #[.val (.int i0), .val (.int i1), .val (.int i2), .val (.int i3), .val (.int (Int32.ofNat W)), .val (.int (Int32.ofNat H)), .val (.int (Int32.ofNat (W + H))), .val (.int (Int32.ofNat A)), .val (.int (Int32.ofNat B)), .val (.ref b1), .val (.int (Int32.ofNat (min A B))), .val (.int (Int32.ofNat (max A B))), .unset, .unset, .unset, .unset]) rfl kk) ?_
        show Go _ _ _ _ _ _ _ T60 (mkF m 98 #[_, _, _, _, _, _, _, _, _, _, _, _, _, _, _, _] [])
        have V61 : AV Z h60 x2_2 .long ((H + 63) / 64) (lv w0) := u4 ▸ F60q7
        refine Go.step (fun tt kk => XS.aload X60.here hx rfl (hb hby at_98) rfl rfl kk) ?_
        show Go _ _ _ _ _ _ _ T60 (mkF m 100 #[_, _, _, _, _, _, _, _, _, _, _, _, _, _, _, _] [(.ref b1)])
        obtain ⟨v62, T62, L62, X62, q62, st62⟩ := c_virt X60 hx hZ hown (y' := (⟨"com/example/gridwright/gridwright/engine/LargeDraft", "next", "()I"⟩ : MethodName)) (y := (⟨"com/example/gridwright/gridwright/engine/LargeDraft", "next", "()I"⟩ : MethodName)) (C := "com/example/gridwright/gridwright/engine/LargeDraft") (hw _ (List.mem_of_getElem? (i := 115) rfl)) (hw _ (List.mem_of_getElem? (i := 116) rfl)) (notFace_of_selects (args := #[]) (mvT hZ (hw _ (List.mem_of_getElem? (i := 118) rfl)))) (hw _ (List.mem_of_getElem? (i := 118) rfl)) (hw _ (List.mem_of_getElem? (i := 117) rfl)) (hw _ (List.mem_of_getElem? (i := 3) rfl)) (hw _ (List.mem_of_getElem? (i := 119) rfl)) (by decide) (a := b1) (argsL := []) (rest := []) (rmNn1 l Z a0 hw [] b1 x2_2 x2_3 H ((H + 63) / 64) ((W + 63) / 64) ((max A B) / 64) 0 x60_0 w0 w0 h60 n0 Z60 F60q0 F60q1 F60q2 F60q3 F60q4 F60q5 F60q6 V61 F60q8 gn_b1 gn_x2_2 gn_x2_3 ne_b1_x2_2 ne_b1_x2_3 ne_x2_2_x2_3 (by omega) (by omega) (by omega) (fun _ _ _ => rfl) (fun _ _ _ => rfl)) e60 F60q0 pd_5 rfl (by rw [hml]; rfl) (W := 0) (by show 2 * 0 + _ ≤ _; exact Nat.le_of_eq rfl) (by decide) (by decide) (by decide) (by decide) (hb hby at_100) (Ls := #[.val (.int i0), .val (.int i1), .val (.int i2), .val (.int i3), .val (.int (Int32.ofNat W)), .val (.int (Int32.ofNat H)), .val (.int (Int32.ofNat (W + H))), .val (.int (Int32.ofNat A)), .val (.int (Int32.ofNat B)), .val (.ref b1), .val (.int (Int32.ofNat (min A B))), .val (.int (Int32.ofNat (max A B))), .unset, .unset, .unset, .unset])
        generalize e62 : T62.heap = h62 at q62
        obtain ⟨x62_0, rfl, N62q, K62q, F62q0, F62q1, F62q2, F62q3, F62q4, F62q5, F62q6, F62q7, F62q8⟩ := q62
        have N62 := Fr.app N60 N62q
        have Z62 : n0 ≤ h62.size := Nat.le_trans Z60 K62q.1
        refine Go.step (st62) ?_
        show Go _ _ _ _ _ _ _ T62 (mkF m 103 #[_, _, _, _, _, _, _, _, _, _, _, _, _, _, _, _] [(.int (-1 : Int32))])
        refine Go.step (fun tt kk => XS.istore X62.here hx rfl (hb hby at_103) rfl (l' := #[.val (.int i0), .val (.int i1), .val (.int i2), .val (.int i3), .val (.int (Int32.ofNat W)), .val (.int (Int32.ofNat H)), .val (.int (Int32.ofNat (W + H))), .val (.int (Int32.ofNat A)), .val (.int (Int32.ofNat B)), .val (.ref b1), .val (.int (Int32.ofNat (min A B))), .val (.int (Int32.ofNat (max A B))), .val (.int (-1 : Int32)), .unset, .unset, .unset]) rfl kk) ?_
        show Go _ _ _ _ _ _ _ T62 (mkF m 105 #[_, _, _, _, _, _, _, _, _, _, _, _, _, _, _, _] [])
        refine Go.step (fun tt kk => XS.iload X62.here hx rfl (hb hby at_105) rfl kk) ?_
        show Go _ _ _ _ _ _ _ T62 (mkF m 107 #[_, _, _, _, _, _, _, _, _, _, _, _, _, _, _, _] [(.int (Int32.ofNat A))])
        refine Go.step (fun tt kk => XS.iload X62.here hx rfl (hb hby at_107) rfl kk) ?_
        show Go _ _ _ _ _ _ _ T62 (mkF m 109 #[_, _, _, _, _, _, _, _, _, _, _, _, _, _, _, _] [(.int (Int32.ofNat B)), (.int (Int32.ofNat A))])
        obtain ⟨v63, T63, L63, X63, q63, st63⟩ := c_static X62 hx hZ hown (y := (⟨"java/lang/Math", "min", "(II)I"⟩ : MethodName)) (hw _ (List.mem_of_getElem? (i := 131) rfl)) (hw _ (List.mem_of_getElem? (i := 132) rfl)) (hw _ (List.mem_of_getElem? (i := 21) rfl)) (hw _ (List.mem_of_getElem? (i := 133) rfl)) (by decide) (argsL := [(.int (Int32.ofNat A)), (.int (Int32.ofNat B))]) (rest := []) (rmmn l Z a0 hw [] (Int32.ofNat A) (Int32.ofNat B) h62 n0 Z62) e62 pd_0 rfl (by rw [hml]; rfl) (W := 0) (by show 2 * 0 + _ ≤ _; exact Nat.le_of_eq rfl) (by decide) (by decide) (by decide) (by decide) (hb hby at_109) (Ls := #[.val (.int i0), .val (.int i1), .val (.int i2), .val (.int i3), .val (.int (Int32.ofNat W)), .val (.int (Int32.ofNat H)), .val (.int (Int32.ofNat (W + H))), .val (.int (Int32.ofNat A)), .val (.int (Int32.ofNat B)), .val (.ref b1), .val (.int (Int32.ofNat (min A B))), .val (.int (Int32.ofNat (max A B))), .val (.int (-1 : Int32)), .unset, .unset, .unset])
        obtain ⟨rfl, rfl, e63⟩ := q63
        have N63 := Fr.app N62 (Fr.nil n0)
        refine Go.step (st63) ?_
        show Go _ _ _ _ _ _ _ T63 (mkF m 112 #[_, _, _, _, _, _, _, _, _, _, _, _, _, _, _, _] [(.int (mn (Int32.ofNat A) (Int32.ofNat B)))])
        rw [own_min _ _ (by omega) (by omega)]
        show Go _ _ _ _ _ _ _ T63 (mkF m 112 #[.val (.int i0), .val (.int i1), .val (.int i2), .val (.int i3), .val (.int (Int32.ofNat W)), .val (.int (Int32.ofNat H)), .val (.int (Int32.ofNat (W + H))), .val (.int (Int32.ofNat A)), .val (.int (Int32.ofNat B)), .val (.ref b1), .val (.int (Int32.ofNat (min A B))), .val (.int (Int32.ofNat (max A B))), .val (.int (-1 : Int32)), .unset, .unset, .unset] [(.int (Int32.ofNat (min A B)))])
        refine Go.step (fun tt kk => XS.istore X63.here hx rfl (hb hby at_112) rfl (l' := #[.val (.int i0), .val (.int i1), .val (.int i2), .val (.int i3), .val (.int (Int32.ofNat W)), .val (.int (Int32.ofNat H)), .val (.int (Int32.ofNat (W + H))), .val (.int (Int32.ofNat A)), .val (.int (Int32.ofNat B)), .val (.ref b1), .val (.int (Int32.ofNat (min A B))), .val (.int (Int32.ofNat (max A B))), .val (.int (-1 : Int32)), .val (.int (Int32.ofNat (min A B))), .unset, .unset]) rfl kk) ?_
        show Go _ _ _ _ _ _ _ T63 (mkF m 114 #[_, _, _, _, _, _, _, _, _, _, _, _, _, _, _, _] [])
        refine Go.step (fun tt kk => XS.iload X63.here hx rfl (hb hby at_114) rfl kk) ?_
        show Go _ _ _ _ _ _ _ T63 (mkF m 116 #[_, _, _, _, _, _, _, _, _, _, _, _, _, _, _, _] [(.int (Int32.ofNat A))])
        refine Go.step (fun tt kk => XS.iload X63.here hx rfl (hb hby at_116) rfl kk) ?_
        show Go _ _ _ _ _ _ _ T63 (mkF m 118 #[_, _, _, _, _, _, _, _, _, _, _, _, _, _, _, _] [(.int (Int32.ofNat B)), (.int (Int32.ofNat A))])
        obtain ⟨v64, T64, L64, X64, q64, st64⟩ := c_static X63 hx hZ hown (y := (⟨"java/lang/Math", "max", "(II)I"⟩ : MethodName)) (hw _ (List.mem_of_getElem? (i := 134) rfl)) (hw _ (List.mem_of_getElem? (i := 20) rfl)) (hw _ (List.mem_of_getElem? (i := 21) rfl)) (hw _ (List.mem_of_getElem? (i := 22) rfl)) (by decide) (argsL := [(.int (Int32.ofNat A)), (.int (Int32.ofNat B))]) (rest := []) (rmmx l Z a0 hw [] (Int32.ofNat A) (Int32.ofNat B) h62 n0 Z62) e63 pd_0 rfl (by rw [hml]; rfl) (W := 0) (by show 2 * 0 + _ ≤ _; exact Nat.le_of_eq rfl) (by decide) (by decide) (by decide) (by decide) (hb hby at_118) (Ls := #[.val (.int i0), .val (.int i1), .val (.int i2), .val (.int i3), .val (.int (Int32.ofNat W)), .val (.int (Int32.ofNat H)), .val (.int (Int32.ofNat (W + H))), .val (.int (Int32.ofNat A)), .val (.int (Int32.ofNat B)), .val (.ref b1), .val (.int (Int32.ofNat (min A B))), .val (.int (Int32.ofNat (max A B))), .val (.int (-1 : Int32)), .val (.int (Int32.ofNat (min A B))), .unset, .unset])
        obtain ⟨rfl, rfl, e64⟩ := q64
        have N64 := Fr.app N63 (Fr.nil n0)
        refine Go.step (st64) ?_
        show Go _ _ _ _ _ _ _ T64 (mkF m 121 #[_, _, _, _, _, _, _, _, _, _, _, _, _, _, _, _] [(.int (mx (Int32.ofNat A) (Int32.ofNat B)))])
        rw [own_max _ _ (by omega) (by omega)]
        show Go _ _ _ _ _ _ _ T64 (mkF m 121 #[.val (.int i0), .val (.int i1), .val (.int i2), .val (.int i3), .val (.int (Int32.ofNat W)), .val (.int (Int32.ofNat H)), .val (.int (Int32.ofNat (W + H))), .val (.int (Int32.ofNat A)), .val (.int (Int32.ofNat B)), .val (.ref b1), .val (.int (Int32.ofNat (min A B))), .val (.int (Int32.ofNat (max A B))), .val (.int (-1 : Int32)), .val (.int (Int32.ofNat (min A B))), .unset, .unset] [(.int (Int32.ofNat (max A B)))])
        refine Go.step (fun tt kk => XS.istore X64.here hx rfl (hb hby at_121) rfl (l' := #[.val (.int i0), .val (.int i1), .val (.int i2), .val (.int i3), .val (.int (Int32.ofNat W)), .val (.int (Int32.ofNat H)), .val (.int (Int32.ofNat (W + H))), .val (.int (Int32.ofNat A)), .val (.int (Int32.ofNat B)), .val (.ref b1), .val (.int (Int32.ofNat (min A B))), .val (.int (Int32.ofNat (max A B))), .val (.int (-1 : Int32)), .val (.int (Int32.ofNat (min A B))), .val (.int (Int32.ofNat (max A B))), .unset]) rfl kk) ?_
        show Go _ _ _ _ _ _ _ T64 (mkF m 123 #[_, _, _, _, _, _, _, _, _, _, _, _, _, _, _, _] [])
        refine Go.step (fun tt kk => XS.iload X64.here hx rfl (hb hby at_123) rfl kk) ?_
        show Go _ _ _ _ _ _ _ T64 (mkF m 125 #[_, _, _, _, _, _, _, _, _, _, _, _, _, _, _, _] [(.int (Int32.ofNat (min A B)))])
        refine Go.step (fun tt kk => XS.iload X64.here hx rfl (hb hby at_125) rfl kk) ?_
        show Go _ _ _ _ _ _ _ T64 (mkF m 127 #[_, _, _, _, _, _, _, _, _, _, _, _, _, _, _, _] [(.int (Int32.ofNat (max A B))), (.int (Int32.ofNat (min A B)))])
        refine Go.step (fun tt kk => XS.icmpYes X64.here hx rfl (pc0 := 127) (pc' := 134) rfl (hb hby at_127) rfl (feq (mt (own_eq _ _ (by omega) (by omega)).mp (by omega))).2 (by decide) (by decide) kk) ?_
        show Go _ _ _ _ _ _ _ T64 (mkF m 134 #[_, _, _, _, _, _, _, _, _, _, _, _, _, _, _, _] [])
        refine Go.step (fun tt kk => XS.iload X64.here hx rfl (hb hby at_134) rfl kk) ?_
        show Go _ _ _ _ _ _ _ T64 (mkF m 136 #[_, _, _, _, _, _, _, _, _, _, _, _, _, _, _, _] [(.int (Int32.ofNat (max A B)))])
        refine Go.step (fun tt kk => XS.istore X64.here hx rfl (hb hby at_136) rfl (l' := #[.val (.int i0), .val (.int i1), .val (.int i2), .val (.int i3), .val (.int (Int32.ofNat W)), .val (.int (Int32.ofNat H)), .val (.int (Int32.ofNat (W + H))), .val (.int (Int32.ofNat A)), .val (.int (Int32.ofNat B)), .val (.ref b1), .val (.int (Int32.ofNat (min A B))), .val (.int (Int32.ofNat (max A B))), .val (.int (-1 : Int32)), .val (.int (Int32.ofNat (min A B))), .val (.int (Int32.ofNat (max A B))), .val (.int (Int32.ofNat (max A B)))]) rfl kk) ?_
        show Go _ _ _ _ _ _ _ T64 (mkF m 138 #[_, _, _, _, _, _, _, _, _, _, _, _, _, _, _, _] [])
        refine Go.step (fun tt kk => XS.iload X64.here hx rfl (hb hby at_138) rfl kk) ?_
        show Go _ _ _ _ _ _ _ T64 (mkF m 140 #[_, _, _, _, _, _, _, _, _, _, _, _, _, _, _, _] [(.int (Int32.ofNat (min A B)))])
        refine Go.step (fun tt kk => XS.iload X64.here hx rfl (hb hby at_140) rfl kk) ?_
        show Go _ _ _ _ _ _ _ T64 (mkF m 142 #[_, _, _, _, _, _, _, _, _, _, _, _, _, _, _, _] [(.int (Int32.ofNat (min A B))), (.int (Int32.ofNat (min A B)))])
        refine Go.step (fun tt kk => XS.icmpNo X64.here hx rfl (hb hby at_142) rfl (teq ((own_eq _ _ (by omega) (by omega)).mpr (by omega))).2 kk) ?_
        show Go _ _ _ _ _ _ _ T64 (mkF m 145 #[_, _, _, _, _, _, _, _, _, _, _, _, _, _, _, _] [])
        refine Go.step (fun tt kk => XS.iload X64.here hx rfl (hb hby at_145) rfl kk) ?_
        show Go _ _ _ _ _ _ _ T64 (mkF m 147 #[_, _, _, _, _, _, _, _, _, _, _, _, _, _, _, _] [(.int (Int32.ofNat (max A B)))])
        refine Go.step (fun tt kk => XS.iload X64.here hx rfl (hb hby at_147) rfl kk) ?_
        show Go _ _ _ _ _ _ _ T64 (mkF m 149 #[_, _, _, _, _, _, _, _, _, _, _, _, _, _, _, _] [(.int (Int32.ofNat (max A B))), (.int (Int32.ofNat (max A B)))])
        refine Go.step (fun tt kk => XS.icmpNo X64.here hx rfl (hb hby at_149) rfl (teq ((own_eq _ _ (by omega) (by omega)).mpr (by omega))).2 kk) ?_
        show Go _ _ _ _ _ _ _ T64 (mkF m 152 #[_, _, _, _, _, _, _, _, _, _, _, _, _, _, _, _] [])
        refine Go.step (fun tt kk => XS.iload X64.here hx rfl (hb hby at_152) rfl kk) ?_
        show Go _ _ _ _ _ _ _ T64 (mkF m 154 #[_, _, _, _, _, _, _, _, _, _, _, _, _, _, _, _] [(.int (-1 : Int32))])
        refine Go.step (fun tt kk => XS.iconst X64.here hx rfl (hb hby at_154) kk) ?_
        show Go _ _ _ _ _ _ _ T64 (mkF m 155 #[_, _, _, _, _, _, _, _, _, _, _, _, _, _, _, _] [(.int (-1 : Int32)), (.int (-1 : Int32))])
        refine Go.step (fun tt kk => XS.icmpNo X64.here hx rfl (hb hby at_155) rfl (teq rfl).2 kk) ?_
        show Go _ _ _ _ _ _ _ T64 (mkF m 158 #[_, _, _, _, _, _, _, _, _, _, _, _, _, _, _, _] [])
        refine Go.step (fun tt kk => XS.iconst X64.here hx rfl (hb hby at_158) kk) ?_
        show Go _ _ _ _ _ _ _ T64 (mkF m 159 #[_, _, _, _, _, _, _, _, _, _, _, _, _, _, _, _] [(.int (1 : Int32))])
        refine Go.step (fun tt kk => XS.goto X64.here hx rfl (pc0 := 159) (pc' := 163) rfl (hb hby at_159) (by decide) (by decide) kk) ?_
        show Go _ _ _ _ _ _ _ T64 (mkF m 163 #[_, _, _, _, _, _, _, _, _, _, _, _, _, _, _, _] [(.int (1 : Int32))])
        refine go_retN X64 hx (t := .boolean) hret (by simp) hlk (hb hby at_163) (w := (1 : Int32)) rfl ?_ (by decide) (by decide)
        try rw [e64]
        exact ⟨rfl, N64⟩
    · show Go _ _ _ _ _ _ _ T5 (mkF m 70 #[.val (.int i0), .val (.int i1), .val (.int i2), .val (.int i3), .val (.int (Int32.ofNat W)), .val (.int (Int32.ofNat H)), .val (.int (Int32.ofNat (W + H))), .val (.int (Int32.ofNat A)), .val (.int (Int32.ofNat B)), .val (.ref b1), .unset, .unset, .unset, .unset, .unset, .unset] [])
      refine Go.step (fun tt kk => XS.aload X5.here hx rfl (hb hby at_70) rfl rfl kk) ?_
      show Go _ _ _ _ _ _ _ T5 (mkF m 72 #[_, _, _, _, _, _, _, _, _, _, _, _, _, _, _, _] [(.ref b1)])
      refine Go.step (fun tt kk => XS.iload X5.here hx rfl (hb hby at_72) rfl kk) ?_
      show Go _ _ _ _ _ _ _ T5 (mkF m 74 #[_, _, _, _, _, _, _, _, _, _, _, _, _, _, _, _] [(.int (Int32.ofNat A)), (.ref b1)])
      obtain ⟨v65, T65, L65, X65, q65, st65⟩ := c_virt X5 hx hZ hown (y' := (⟨"com/example/gridwright/gridwright/engine/LargeDraft", "await", "(I)V"⟩ : MethodName)) (y := (⟨"com/example/gridwright/gridwright/engine/LargeDraft", "await", "(I)V"⟩ : MethodName)) (C := "com/example/gridwright/gridwright/engine/LargeDraft") (hw _ (List.mem_of_getElem? (i := 110) rfl)) (hw _ (List.mem_of_getElem? (i := 111) rfl)) (notFace_of_selects (args := #[]) (mvT hZ (hw _ (List.mem_of_getElem? (i := 113) rfl)))) (hw _ (List.mem_of_getElem? (i := 113) rfl)) (hw _ (List.mem_of_getElem? (i := 112) rfl)) (hw _ (List.mem_of_getElem? (i := 3) rfl)) (hw _ (List.mem_of_getElem? (i := 114) rfl)) (by decide) (a := b1) (argsL := [(.int (Int32.ofNat A))]) (rest := []) (rmAr l Z a0 hw [] b1 x2_2 H A ((H + 63) / 64) w0 h5 n0 Z5 F5q0 F5q1 F5q3 F5q7 gn_b1 gn_x2_2 ne_b1_x2_2 (by omega) (by omega) hA0 (by omega)) e5 F5q0 pd_8 rfl (by rw [hml]; rfl) (W := 0) (by show 2 * 0 + _ ≤ _; exact Nat.le_of_eq rfl) (by decide) (by decide) (by decide) (by decide) (hb hby at_74) (Ls := #[.val (.int i0), .val (.int i1), .val (.int i2), .val (.int i3), .val (.int (Int32.ofNat W)), .val (.int (Int32.ofNat H)), .val (.int (Int32.ofNat (W + H))), .val (.int (Int32.ofNat A)), .val (.int (Int32.ofNat B)), .val (.ref b1), .unset, .unset, .unset, .unset, .unset, .unset])
      generalize e65 : T65.heap = h65 at q65
      obtain ⟨rfl, N65q, K65q, F65q0⟩ := q65
      have N65 := Fr.app N5 N65q
      have Z65 : n0 ≤ h65.size := Nat.le_trans Z5 K65q.1
      refine Go.step (st65) ?_
      show Go _ _ _ _ _ _ _ T65 (mkF m 77 #[_, _, _, _, _, _, _, _, _, _, _, _, _, _, _, _] [])
      have V66 : AV Z h65 x2_2 .long ((H + 63) / 64) (lv (wd1 A)) := (w_or1 A) ▸ F65q0
      refine Go.step (fun tt kk => XS.aload X65.here hx rfl (hb hby at_77) rfl rfl kk) ?_
      show Go _ _ _ _ _ _ _ T65 (mkF m 79 #[_, _, _, _, _, _, _, _, _, _, _, _, _, _, _, _] [(.ref b1)])
      refine Go.step (fun tt kk => XS.iload X65.here hx rfl (hb hby at_79) rfl kk) ?_
      show Go _ _ _ _ _ _ _ T65 (mkF m 81 #[_, _, _, _, _, _, _, _, _, _, _, _, _, _, _, _] [(.int (Int32.ofNat B)), (.ref b1)])
      have f68 := (F5q0.keep K65q)
      have f69 := (F5q1.keep K65q (ninS ne_b1_x2_2 nin0))
      have f70 := (F5q4.keep K65q (ninS ne_b1_x2_2 nin0))
      have f71 := (F5q8.keep K65q (ninS (Ne.symm ne_x2_2_x2_3) nin0))
      obtain ⟨v67, T67, L67, X67, q67, st67⟩ := c_virt X65 hx hZ hown (y' := (⟨"com/example/gridwright/gridwright/engine/LargeDraft", "await", "(I)V"⟩ : MethodName)) (y := (⟨"com/example/gridwright/gridwright/engine/LargeDraft", "await", "(I)V"⟩ : MethodName)) (C := "com/example/gridwright/gridwright/engine/LargeDraft") (hw _ (List.mem_of_getElem? (i := 110) rfl)) (hw _ (List.mem_of_getElem? (i := 111) rfl)) (notFace_of_selects (args := #[]) (mvT hZ (hw _ (List.mem_of_getElem? (i := 113) rfl)))) (hw _ (List.mem_of_getElem? (i := 113) rfl)) (hw _ (List.mem_of_getElem? (i := 112) rfl)) (hw _ (List.mem_of_getElem? (i := 3) rfl)) (hw _ (List.mem_of_getElem? (i := 114) rfl)) (by decide) (a := b1) (argsL := [(.int (Int32.ofNat B))]) (rest := []) (rmAc l Z a0 hw [] b1 x2_3 H B ((W + 63) / 64) w0 h65 n0 Z65 f68 f69 f70 f71 gn_b1 gn_x2_3 ne_b1_x2_3 (by omega) (by omega) hB0 (by omega)) e65 f68 pd_8 rfl (by rw [hml]; rfl) (W := 0) (by show 2 * 0 + _ ≤ _; exact Nat.le_of_eq rfl) (by decide) (by decide) (by decide) (by decide) (hb hby at_81) (Ls := #[.val (.int i0), .val (.int i1), .val (.int i2), .val (.int i3), .val (.int (Int32.ofNat W)), .val (.int (Int32.ofNat H)), .val (.int (Int32.ofNat (W + H))), .val (.int (Int32.ofNat A)), .val (.int (Int32.ofNat B)), .val (.ref b1), .unset, .unset, .unset, .unset, .unset, .unset])
      generalize e67 : T67.heap = h67 at q67
      obtain ⟨rfl, N67q, K67q, F67q0⟩ := q67
      have N67 := Fr.app N65 N67q
      have Z67 : n0 ≤ h67.size := Nat.le_trans Z65 K67q.1
      refine Go.step (st67) ?_
      show Go _ _ _ _ _ _ _ T67 (mkF m 84 #[_, _, _, _, _, _, _, _, _, _, _, _, _, _, _, _] [])
      have V72 : AV Z h67 x2_3 .long ((W + 63) / 64) (lv (wd1 (B - H))) := (w_or1 (B - H)) ▸ F67q0
      obtain ⟨s1, s2, s3, s4⟩ := w_one A (by omega)
      obtain ⟨u1, u2, u3, u4⟩ := w_one (B - H) (by omega)
      refine Go.step (fun tt kk => XS.aload X67.here hx rfl (hb hby at_84) rfl rfl kk) ?_
      show Go _ _ _ _ _ _ _ T67 (mkF m 86 #[_, _, _, _, _, _, _, _, _, _, _, _, _, _, _, _] [(.ref b1)])
      have f74 := (f68.keep K67q)
      have f75 := (f69.keep K67q (ninS ne_b1_x2_3 nin0))
      have f76 := ((F5q2.keep K65q (ninS ne_b1_x2_2 nin0)).keep K67q (ninS ne_b1_x2_3 nin0))
      have f77 := ((F5q3.keep K65q (ninS ne_b1_x2_2 nin0)).keep K67q (ninS ne_b1_x2_3 nin0))
      have f78 := (f70.keep K67q (ninS ne_b1_x2_3 nin0))
      have f79 := ((F5q5.keep K65q (ninS ne_b1_x2_2 nin0)).keep K67q (ninS ne_b1_x2_3 nin0))
      have f80 := ((F5q6.keep K65q (ninS ne_b1_x2_2 nin0)).keep K67q (ninS ne_b1_x2_3 nin0))
      have f81 := (V66.keep K67q (ninS ne_x2_2_x2_3 nin0))
      obtain ⟨v73, T73, L73, X73, q73, st73⟩ := c_virt X67 hx hZ hown (y' := (⟨"com/example/gridwright/gridwright/engine/LargeDraft", "next", "()I"⟩ : MethodName)) (y := (⟨"com/example/gridwright/gridwright/engine/LargeDraft", "next", "()I"⟩ : MethodName)) (C := "com/example/gridwright/gridwright/engine/LargeDraft") (hw _ (List.mem_of_getElem? (i := 115) rfl)) (hw _ (List.mem_of_getElem? (i := 116) rfl)) (notFace_of_selects (args := #[]) (mvT hZ (hw _ (List.mem_of_getElem? (i := 118) rfl)))) (hw _ (List.mem_of_getElem? (i := 118) rfl)) (hw _ (List.mem_of_getElem? (i := 117) rfl)) (hw _ (List.mem_of_getElem? (i := 3) rfl)) (hw _ (List.mem_of_getElem? (i := 119) rfl)) (by decide) (a := b1) (argsL := []) (rest := []) (rmNf1 l Z a0 hw [] b1 x2_2 x2_3 H ((H + 63) / 64) ((W + 63) / 64) 0 (A / 64) (0 : Int64) (wd1 A) (wd1 (B - H)) h67 n0 Z67 f74 f75 f76 f77 f78 f79 f80 f81 V72 gn_b1 gn_x2_2 gn_x2_3 ne_b1_x2_2 ne_b1_x2_3 ne_x2_2_x2_3 (by omega) (by omega) (by omega) (by omega) (fun j _ hj => s1 j (by omega)) s2) e67 f74 pd_5 rfl (by rw [hml]; rfl) (W := 0) (by show 2 * 0 + _ ≤ _; exact Nat.le_of_eq rfl) (by decide) (by decide) (by decide) (by decide) (hb hby at_86) (Ls := #[.val (.int i0), .val (.int i1), .val (.int i2), .val (.int i3), .val (.int (Int32.ofNat W)), .val (.int (Int32.ofNat H)), .val (.int (Int32.ofNat (W + H))), .val (.int (Int32.ofNat A)), .val (.int (Int32.ofNat B)), .val (.ref b1), .unset, .unset, .unset, .unset, .unset, .unset])
      generalize e73 : T73.heap = h73 at q73
      obtain ⟨x73_0, rfl, N73q, K73q, F73q0, F73q1, F73q2, F73q3, F73q4, F73q5, F73q6, F73q7, F73q8⟩ := q73
      have N73 := Fr.app N67 N73q
      have Z73 : n0 ≤ h73.size := Nat.le_trans Z67 K73q.1
      refine Go.step (st73) ?_
      show Go _ _ _ _ _ _ _ T73 (mkF m 89 #[_, _, _, _, _, _, _, _, _, _, _, _, _, _, _, _] [(.int ((64 : Int32) * Int32.ofNat (A / 64) + ntz ((wd1 A) (A / 64))))])
      rw [s3]
      show Go _ _ _ _ _ _ _ T73 (mkF m 89 #[.val (.int i0), .val (.int i1), .val (.int i2), .val (.int i3), .val (.int (Int32.ofNat W)), .val (.int (Int32.ofNat H)), .val (.int (Int32.ofNat (W + H))), .val (.int (Int32.ofNat A)), .val (.int (Int32.ofNat B)), .val (.ref b1), .unset, .unset, .unset, .unset, .unset, .unset] [(.int (Int32.ofNat A))])
      refine Go.step (fun tt kk => XS.istore X73.here hx rfl (hb hby at_89) rfl (l' := #[.val (.int i0), .val (.int i1), .val (.int i2), .val (.int i3), .val (.int (Int32.ofNat W)), .val (.int (Int32.ofNat H)), .val (.int (Int32.ofNat (W + H))), .val (.int (Int32.ofNat A)), .val (.int (Int32.ofNat B)), .val (.ref b1), .val (.int (Int32.ofNat A)), .unset, .unset, .unset, .unset, .unset]) rfl kk) ?_
      show Go _ _ _ _ _ _ _ T73 (mkF m 91 #[_, _, _, _, _, _, _, _, _, _, _, _, _, _, _, _] [])
      have V82 : AV Z h73 x2_2 .long ((H + 63) / 64) (lv w0) := s4 ▸ F73q7
      refine Go.step (fun tt kk => XS.aload X73.here hx rfl (hb hby at_91) rfl rfl kk) ?_
      show Go _ _ _ _ _ _ _ T73 (mkF m 93 #[_, _, _, _, _, _, _, _, _, _, _, _, _, _, _, _] [(.ref b1)])
      obtain ⟨v83, T83, L83, X83, q83, st83⟩ := c_virt X73 hx hZ hown (y' := (⟨"com/example/gridwright/gridwright/engine/LargeDraft", "next", "()I"⟩ : MethodName)) (y := (⟨"com/example/gridwright/gridwright/engine/LargeDraft", "next", "()I"⟩ : MethodName)) (C := "com/example/gridwright/gridwright/engine/LargeDraft") (hw _ (List.mem_of_getElem? (i := 115) rfl)) (hw _ (List.mem_of_getElem? (i := 116) rfl)) (notFace_of_selects (args := #[]) (mvT hZ (hw _ (List.mem_of_getElem? (i := 118) rfl)))) (hw _ (List.mem_of_getElem? (i := 118) rfl)) (hw _ (List.mem_of_getElem? (i := 117) rfl)) (hw _ (List.mem_of_getElem? (i := 3) rfl)) (hw _ (List.mem_of_getElem? (i := 119) rfl)) (by decide) (a := b1) (argsL := []) (rest := []) (rmNs1 l Z a0 hw [] b1 x2_2 x2_3 H ((H + 63) / 64) ((W + 63) / 64) (A / 64) ((B - H) / 64) x73_0 w0 (wd1 (B - H)) h73 n0 Z73 F73q0 F73q1 F73q2 F73q3 F73q4 F73q5 F73q6 V82 F73q8 gn_b1 gn_x2_2 gn_x2_3 ne_b1_x2_2 ne_b1_x2_3 ne_x2_2_x2_3 (by omega) (by omega) (by omega) (by omega) (fun _ _ _ => rfl) (fun j _ hj => u1 j (by omega)) u2) e73 F73q0 pd_5 rfl (by rw [hml]; rfl) (W := 0) (by show 2 * 0 + _ ≤ _; exact Nat.le_of_eq rfl) (by decide) (by decide) (by decide) (by decide) (hb hby at_93) (Ls := #[.val (.int i0), .val (.int i1), .val (.int i2), .val (.int i3), .val (.int (Int32.ofNat W)), .val (.int (Int32.ofNat H)), .val (.int (Int32.ofNat (W + H))), .val (.int (Int32.ofNat A)), .val (.int (Int32.ofNat B)), .val (.ref b1), .val (.int (Int32.ofNat A)), .unset, .unset, .unset, .unset, .unset])
      generalize e83 : T83.heap = h83 at q83
      obtain ⟨x83_0, rfl, N83q, K83q, F83q0, F83q1, F83q2, F83q3, F83q4, F83q5, F83q6, F83q7, F83q8⟩ := q83
      have N83 := Fr.app N73 N83q
      have Z83 : n0 ≤ h83.size := Nat.le_trans Z73 K83q.1
      refine Go.step (st83) ?_
      show Go _ _ _ _ _ _ _ T83 (mkF m 96 #[_, _, _, _, _, _, _, _, _, _, _, _, _, _, _, _] [(.int (Int32.ofNat H + ((64 : Int32) * Int32.ofNat ((B - H) / 64) + ntz ((wd1 (B - H)) ((B - H) / 64)))))])
      rw [u3, ← Int32.ofNat_add, show H + (B - H) = B by omega]
      show Go _ _ _ _ _ _ _ T83 (mkF m 96 #[.val (.int i0), .val (.int i1), .val (.int i2), .val (.int i3), .val (.int (Int32.ofNat W)), .val (.int (Int32.ofNat H)), .val (.int (Int32.ofNat (W + H))), .val (.int (Int32.ofNat A)), .val (.int (Int32.ofNat B)), .val (.ref b1), .val (.int (Int32.ofNat A)), .unset, .unset, .unset, .unset, .unset] [(.int (Int32.ofNat B))])
      refine Go.step (fun tt kk => XS.istore X83.here hx rfl (hb hby at_96) rfl (l' := #[.val (.int i0), .val (.int i1), .val (.int i2), .val (.int i3), .val (.int (Int32.ofNat W)), .val (.int (Int32.ofNat H)), .val (.int (Int32.ofNat (W + H))), .val (.int (Int32.ofNat A)), .val (.int (Int32.ofNat B)), .val (.ref b1), .val (.int (Int32.ofNat A)), .val (.int (Int32.ofNat B)), .unset, .unset, .unset, .unset]) rfl kk) ?_
      show Go _ _ _ _ _ _ _ T83 (mkF m 98 #[_, _, _, _, _, _, _, _, _, _, _, _, _, _, _, _] [])
      have V84 : AV Z h83 x2_3 .long ((W + 63) / 64) (lv w0) := u4 ▸ F83q8
      refine Go.step (fun tt kk => XS.aload X83.here hx rfl (hb hby at_98) rfl rfl kk) ?_
      show Go _ _ _ _ _ _ _ T83 (mkF m 100 #[_, _, _, _, _, _, _, _, _, _, _, _, _, _, _, _] [(.ref b1)])
      obtain ⟨v85, T85, L85, X85, q85, st85⟩ := c_virt X83 hx hZ hown (y' := (⟨"com/example/gridwright/gridwright/engine/LargeDraft", "next", "()I"⟩ : MethodName)) (y := (⟨"com/example/gridwright/gridwright/engine/LargeDraft", "next", "()I"⟩ : MethodName)) (C := "com/example/gridwright/gridwright/engine/LargeDraft") (hw _ (List.mem_of_getElem? (i := 115) rfl)) (hw _ (List.mem_of_getElem? (i := 116) rfl)) (notFace_of_selects (args := #[]) (mvT hZ (hw _ (List.mem_of_getElem? (i := 118) rfl)))) (hw _ (List.mem_of_getElem? (i := 118) rfl)) (hw _ (List.mem_of_getElem? (i := 117) rfl)) (hw _ (List.mem_of_getElem? (i := 3) rfl)) (hw _ (List.mem_of_getElem? (i := 119) rfl)) (by decide) (a := b1) (argsL := []) (rest := []) (rmNn0 l Z a0 hw [] b1 x2_2 x2_3 H ((H + 63) / 64) ((W + 63) / 64) ((B - H) / 64) 0 x83_0 w0 w0 h83 n0 Z83 F83q0 F83q1 F83q2 F83q3 F83q4 F83q5 F83q6 F83q7 V84 gn_b1 gn_x2_2 gn_x2_3 ne_b1_x2_2 ne_b1_x2_3 ne_x2_2_x2_3 (by omega) (by omega) (by omega) (fun _ _ _ => rfl) (fun _ _ _ => rfl)) e83 F83q0 pd_5 rfl (by rw [hml]; rfl) (W := 0) (by show 2 * 0 + _ ≤ _; exact Nat.le_of_eq rfl) (by decide) (by decide) (by decide) (by decide) (hb hby at_100) (Ls := #[.val (.int i0), .val (.int i1), .val (.int i2), .val (.int i3), .val (.int (Int32.ofNat W)), .val (.int (Int32.ofNat H)), .val (.int (Int32.ofNat (W + H))), .val (.int (Int32.ofNat A)), .val (.int (Int32.ofNat B)), .val (.ref b1), .val (.int (Int32.ofNat A)), .val (.int (Int32.ofNat B)), .unset, .unset, .unset, .unset])
      generalize e85 : T85.heap = h85 at q85
      obtain ⟨x85_0, rfl, N85q, K85q, F85q0, F85q1, F85q2, F85q3, F85q4, F85q5, F85q6, F85q7, F85q8⟩ := q85
      have N85 := Fr.app N83 N85q
      have Z85 : n0 ≤ h85.size := Nat.le_trans Z83 K85q.1
      refine Go.step (st85) ?_
      show Go _ _ _ _ _ _ _ T85 (mkF m 103 #[_, _, _, _, _, _, _, _, _, _, _, _, _, _, _, _] [(.int (-1 : Int32))])
      refine Go.step (fun tt kk => XS.istore X85.here hx rfl (hb hby at_103) rfl (l' := #[.val (.int i0), .val (.int i1), .val (.int i2), .val (.int i3), .val (.int (Int32.ofNat W)), .val (.int (Int32.ofNat H)), .val (.int (Int32.ofNat (W + H))), .val (.int (Int32.ofNat A)), .val (.int (Int32.ofNat B)), .val (.ref b1), .val (.int (Int32.ofNat A)), .val (.int (Int32.ofNat B)), .val (.int (-1 : Int32)), .unset, .unset, .unset]) rfl kk) ?_
      show Go _ _ _ _ _ _ _ T85 (mkF m 105 #[_, _, _, _, _, _, _, _, _, _, _, _, _, _, _, _] [])
      refine Go.step (fun tt kk => XS.iload X85.here hx rfl (hb hby at_105) rfl kk) ?_
      show Go _ _ _ _ _ _ _ T85 (mkF m 107 #[_, _, _, _, _, _, _, _, _, _, _, _, _, _, _, _] [(.int (Int32.ofNat A))])
      refine Go.step (fun tt kk => XS.iload X85.here hx rfl (hb hby at_107) rfl kk) ?_
      show Go _ _ _ _ _ _ _ T85 (mkF m 109 #[_, _, _, _, _, _, _, _, _, _, _, _, _, _, _, _] [(.int (Int32.ofNat B)), (.int (Int32.ofNat A))])
      obtain ⟨v86, T86, L86, X86, q86, st86⟩ := c_static X85 hx hZ hown (y := (⟨"java/lang/Math", "min", "(II)I"⟩ : MethodName)) (hw _ (List.mem_of_getElem? (i := 131) rfl)) (hw _ (List.mem_of_getElem? (i := 132) rfl)) (hw _ (List.mem_of_getElem? (i := 21) rfl)) (hw _ (List.mem_of_getElem? (i := 133) rfl)) (by decide) (argsL := [(.int (Int32.ofNat A)), (.int (Int32.ofNat B))]) (rest := []) (rmmn l Z a0 hw [] (Int32.ofNat A) (Int32.ofNat B) h85 n0 Z85) e85 pd_0 rfl (by rw [hml]; rfl) (W := 0) (by show 2 * 0 + _ ≤ _; exact Nat.le_of_eq rfl) (by decide) (by decide) (by decide) (by decide) (hb hby at_109) (Ls := #[.val (.int i0), .val (.int i1), .val (.int i2), .val (.int i3), .val (.int (Int32.ofNat W)), .val (.int (Int32.ofNat H)), .val (.int (Int32.ofNat (W + H))), .val (.int (Int32.ofNat A)), .val (.int (Int32.ofNat B)), .val (.ref b1), .val (.int (Int32.ofNat A)), .val (.int (Int32.ofNat B)), .val (.int (-1 : Int32)), .unset, .unset, .unset])
      obtain ⟨rfl, rfl, e86⟩ := q86
      have N86 := Fr.app N85 (Fr.nil n0)
      refine Go.step (st86) ?_
      show Go _ _ _ _ _ _ _ T86 (mkF m 112 #[_, _, _, _, _, _, _, _, _, _, _, _, _, _, _, _] [(.int (mn (Int32.ofNat A) (Int32.ofNat B)))])
      rw [own_min _ _ (by omega) (by omega)]
      show Go _ _ _ _ _ _ _ T86 (mkF m 112 #[.val (.int i0), .val (.int i1), .val (.int i2), .val (.int i3), .val (.int (Int32.ofNat W)), .val (.int (Int32.ofNat H)), .val (.int (Int32.ofNat (W + H))), .val (.int (Int32.ofNat A)), .val (.int (Int32.ofNat B)), .val (.ref b1), .val (.int (Int32.ofNat A)), .val (.int (Int32.ofNat B)), .val (.int (-1 : Int32)), .unset, .unset, .unset] [(.int (Int32.ofNat (min A B)))])
      refine Go.step (fun tt kk => XS.istore X86.here hx rfl (hb hby at_112) rfl (l' := #[.val (.int i0), .val (.int i1), .val (.int i2), .val (.int i3), .val (.int (Int32.ofNat W)), .val (.int (Int32.ofNat H)), .val (.int (Int32.ofNat (W + H))), .val (.int (Int32.ofNat A)), .val (.int (Int32.ofNat B)), .val (.ref b1), .val (.int (Int32.ofNat A)), .val (.int (Int32.ofNat B)), .val (.int (-1 : Int32)), .val (.int (Int32.ofNat (min A B))), .unset, .unset]) rfl kk) ?_
      show Go _ _ _ _ _ _ _ T86 (mkF m 114 #[_, _, _, _, _, _, _, _, _, _, _, _, _, _, _, _] [])
      refine Go.step (fun tt kk => XS.iload X86.here hx rfl (hb hby at_114) rfl kk) ?_
      show Go _ _ _ _ _ _ _ T86 (mkF m 116 #[_, _, _, _, _, _, _, _, _, _, _, _, _, _, _, _] [(.int (Int32.ofNat A))])
      refine Go.step (fun tt kk => XS.iload X86.here hx rfl (hb hby at_116) rfl kk) ?_
      show Go _ _ _ _ _ _ _ T86 (mkF m 118 #[_, _, _, _, _, _, _, _, _, _, _, _, _, _, _, _] [(.int (Int32.ofNat B)), (.int (Int32.ofNat A))])
      obtain ⟨v87, T87, L87, X87, q87, st87⟩ := c_static X86 hx hZ hown (y := (⟨"java/lang/Math", "max", "(II)I"⟩ : MethodName)) (hw _ (List.mem_of_getElem? (i := 134) rfl)) (hw _ (List.mem_of_getElem? (i := 20) rfl)) (hw _ (List.mem_of_getElem? (i := 21) rfl)) (hw _ (List.mem_of_getElem? (i := 22) rfl)) (by decide) (argsL := [(.int (Int32.ofNat A)), (.int (Int32.ofNat B))]) (rest := []) (rmmx l Z a0 hw [] (Int32.ofNat A) (Int32.ofNat B) h85 n0 Z85) e86 pd_0 rfl (by rw [hml]; rfl) (W := 0) (by show 2 * 0 + _ ≤ _; exact Nat.le_of_eq rfl) (by decide) (by decide) (by decide) (by decide) (hb hby at_118) (Ls := #[.val (.int i0), .val (.int i1), .val (.int i2), .val (.int i3), .val (.int (Int32.ofNat W)), .val (.int (Int32.ofNat H)), .val (.int (Int32.ofNat (W + H))), .val (.int (Int32.ofNat A)), .val (.int (Int32.ofNat B)), .val (.ref b1), .val (.int (Int32.ofNat A)), .val (.int (Int32.ofNat B)), .val (.int (-1 : Int32)), .val (.int (Int32.ofNat (min A B))), .unset, .unset])
      obtain ⟨rfl, rfl, e87⟩ := q87
      have N87 := Fr.app N86 (Fr.nil n0)
      refine Go.step (st87) ?_
      show Go _ _ _ _ _ _ _ T87 (mkF m 121 #[_, _, _, _, _, _, _, _, _, _, _, _, _, _, _, _] [(.int (mx (Int32.ofNat A) (Int32.ofNat B)))])
      rw [own_max _ _ (by omega) (by omega)]
      show Go _ _ _ _ _ _ _ T87 (mkF m 121 #[.val (.int i0), .val (.int i1), .val (.int i2), .val (.int i3), .val (.int (Int32.ofNat W)), .val (.int (Int32.ofNat H)), .val (.int (Int32.ofNat (W + H))), .val (.int (Int32.ofNat A)), .val (.int (Int32.ofNat B)), .val (.ref b1), .val (.int (Int32.ofNat A)), .val (.int (Int32.ofNat B)), .val (.int (-1 : Int32)), .val (.int (Int32.ofNat (min A B))), .unset, .unset] [(.int (Int32.ofNat (max A B)))])
      refine Go.step (fun tt kk => XS.istore X87.here hx rfl (hb hby at_121) rfl (l' := #[.val (.int i0), .val (.int i1), .val (.int i2), .val (.int i3), .val (.int (Int32.ofNat W)), .val (.int (Int32.ofNat H)), .val (.int (Int32.ofNat (W + H))), .val (.int (Int32.ofNat A)), .val (.int (Int32.ofNat B)), .val (.ref b1), .val (.int (Int32.ofNat A)), .val (.int (Int32.ofNat B)), .val (.int (-1 : Int32)), .val (.int (Int32.ofNat (min A B))), .val (.int (Int32.ofNat (max A B))), .unset]) rfl kk) ?_
      show Go _ _ _ _ _ _ _ T87 (mkF m 123 #[_, _, _, _, _, _, _, _, _, _, _, _, _, _, _, _] [])
      refine Go.step (fun tt kk => XS.iload X87.here hx rfl (hb hby at_123) rfl kk) ?_
      show Go _ _ _ _ _ _ _ T87 (mkF m 125 #[_, _, _, _, _, _, _, _, _, _, _, _, _, _, _, _] [(.int (Int32.ofNat (min A B)))])
      refine Go.step (fun tt kk => XS.iload X87.here hx rfl (hb hby at_125) rfl kk) ?_
      show Go _ _ _ _ _ _ _ T87 (mkF m 127 #[_, _, _, _, _, _, _, _, _, _, _, _, _, _, _, _] [(.int (Int32.ofNat (max A B))), (.int (Int32.ofNat (min A B)))])
      refine Go.step (fun tt kk => XS.icmpYes X87.here hx rfl (pc0 := 127) (pc' := 134) rfl (hb hby at_127) rfl (feq (mt (own_eq _ _ (by omega) (by omega)).mp (by omega))).2 (by decide) (by decide) kk) ?_
      show Go _ _ _ _ _ _ _ T87 (mkF m 134 #[_, _, _, _, _, _, _, _, _, _, _, _, _, _, _, _] [])
      refine Go.step (fun tt kk => XS.iload X87.here hx rfl (hb hby at_134) rfl kk) ?_
      show Go _ _ _ _ _ _ _ T87 (mkF m 136 #[_, _, _, _, _, _, _, _, _, _, _, _, _, _, _, _] [(.int (Int32.ofNat (max A B)))])
      refine Go.step (fun tt kk => XS.istore X87.here hx rfl (hb hby at_136) rfl (l' := #[.val (.int i0), .val (.int i1), .val (.int i2), .val (.int i3), .val (.int (Int32.ofNat W)), .val (.int (Int32.ofNat H)), .val (.int (Int32.ofNat (W + H))), .val (.int (Int32.ofNat A)), .val (.int (Int32.ofNat B)), .val (.ref b1), .val (.int (Int32.ofNat A)), .val (.int (Int32.ofNat B)), .val (.int (-1 : Int32)), .val (.int (Int32.ofNat (min A B))), .val (.int (Int32.ofNat (max A B))), .val (.int (Int32.ofNat (max A B)))]) rfl kk) ?_
      show Go _ _ _ _ _ _ _ T87 (mkF m 138 #[_, _, _, _, _, _, _, _, _, _, _, _, _, _, _, _] [])
      refine Go.step (fun tt kk => XS.iload X87.here hx rfl (hb hby at_138) rfl kk) ?_
      show Go _ _ _ _ _ _ _ T87 (mkF m 140 #[_, _, _, _, _, _, _, _, _, _, _, _, _, _, _, _] [(.int (Int32.ofNat A))])
      refine Go.step (fun tt kk => XS.iload X87.here hx rfl (hb hby at_140) rfl kk) ?_
      show Go _ _ _ _ _ _ _ T87 (mkF m 142 #[_, _, _, _, _, _, _, _, _, _, _, _, _, _, _, _] [(.int (Int32.ofNat (min A B))), (.int (Int32.ofNat A))])
      refine Go.step (fun tt kk => XS.icmpNo X87.here hx rfl (hb hby at_142) rfl (teq ((own_eq _ _ (by omega) (by omega)).mpr (by omega))).2 kk) ?_
      show Go _ _ _ _ _ _ _ T87 (mkF m 145 #[_, _, _, _, _, _, _, _, _, _, _, _, _, _, _, _] [])
      refine Go.step (fun tt kk => XS.iload X87.here hx rfl (hb hby at_145) rfl kk) ?_
      show Go _ _ _ _ _ _ _ T87 (mkF m 147 #[_, _, _, _, _, _, _, _, _, _, _, _, _, _, _, _] [(.int (Int32.ofNat B))])
      refine Go.step (fun tt kk => XS.iload X87.here hx rfl (hb hby at_147) rfl kk) ?_
      show Go _ _ _ _ _ _ _ T87 (mkF m 149 #[_, _, _, _, _, _, _, _, _, _, _, _, _, _, _, _] [(.int (Int32.ofNat (max A B))), (.int (Int32.ofNat B))])
      refine Go.step (fun tt kk => XS.icmpNo X87.here hx rfl (hb hby at_149) rfl (teq ((own_eq _ _ (by omega) (by omega)).mpr (by omega))).2 kk) ?_
      show Go _ _ _ _ _ _ _ T87 (mkF m 152 #[_, _, _, _, _, _, _, _, _, _, _, _, _, _, _, _] [])
      refine Go.step (fun tt kk => XS.iload X87.here hx rfl (hb hby at_152) rfl kk) ?_
      show Go _ _ _ _ _ _ _ T87 (mkF m 154 #[_, _, _, _, _, _, _, _, _, _, _, _, _, _, _, _] [(.int (-1 : Int32))])
      refine Go.step (fun tt kk => XS.iconst X87.here hx rfl (hb hby at_154) kk) ?_
      show Go _ _ _ _ _ _ _ T87 (mkF m 155 #[_, _, _, _, _, _, _, _, _, _, _, _, _, _, _, _] [(.int (-1 : Int32)), (.int (-1 : Int32))])
      refine Go.step (fun tt kk => XS.icmpNo X87.here hx rfl (hb hby at_155) rfl (teq rfl).2 kk) ?_
      show Go _ _ _ _ _ _ _ T87 (mkF m 158 #[_, _, _, _, _, _, _, _, _, _, _, _, _, _, _, _] [])
      refine Go.step (fun tt kk => XS.iconst X87.here hx rfl (hb hby at_158) kk) ?_
      show Go _ _ _ _ _ _ _ T87 (mkF m 159 #[_, _, _, _, _, _, _, _, _, _, _, _, _, _, _, _] [(.int (1 : Int32))])
      refine Go.step (fun tt kk => XS.goto X87.here hx rfl (pc0 := 159) (pc' := 163) rfl (hb hby at_159) (by decide) (by decide) kk) ?_
      show Go _ _ _ _ _ _ _ T87 (mkF m 163 #[_, _, _, _, _, _, _, _, _, _, _, _, _, _, _, _] [(.int (1 : Int32))])
      refine go_retN X87 hx (t := .boolean) hret (by simp) hlk (hb hby at_163) (w := (1 : Int32)) rfl ?_ (by decide) (by decide)
      try rw [e87]
      exact ⟨rfl, N87⟩
  · by_cases hB0 : B < H
    · show Go _ _ _ _ _ _ _ T5 (mkF m 70 #[.val (.int i0), .val (.int i1), .val (.int i2), .val (.int i3), .val (.int (Int32.ofNat W)), .val (.int (Int32.ofNat H)), .val (.int (Int32.ofNat (W + H))), .val (.int (Int32.ofNat A)), .val (.int (Int32.ofNat B)), .val (.ref b1), .unset, .unset, .unset, .unset, .unset, .unset] [])
      refine Go.step (fun tt kk => XS.aload X5.here hx rfl (hb hby at_70) rfl rfl kk) ?_
      show Go _ _ _ _ _ _ _ T5 (mkF m 72 #[_, _, _, _, _, _, _, _, _, _, _, _, _, _, _, _] [(.ref b1)])
      refine Go.step (fun tt kk => XS.iload X5.here hx rfl (hb hby at_72) rfl kk) ?_
      show Go _ _ _ _ _ _ _ T5 (mkF m 74 #[_, _, _, _, _, _, _, _, _, _, _, _, _, _, _, _] [(.int (Int32.ofNat A)), (.ref b1)])
      obtain ⟨v88, T88, L88, X88, q88, st88⟩ := c_virt X5 hx hZ hown (y' := (⟨"com/example/gridwright/gridwright/engine/LargeDraft", "await", "(I)V"⟩ : MethodName)) (y := (⟨"com/example/gridwright/gridwright/engine/LargeDraft", "await", "(I)V"⟩ : MethodName)) (C := "com/example/gridwright/gridwright/engine/LargeDraft") (hw _ (List.mem_of_getElem? (i := 110) rfl)) (hw _ (List.mem_of_getElem? (i := 111) rfl)) (notFace_of_selects (args := #[]) (mvT hZ (hw _ (List.mem_of_getElem? (i := 113) rfl)))) (hw _ (List.mem_of_getElem? (i := 113) rfl)) (hw _ (List.mem_of_getElem? (i := 112) rfl)) (hw _ (List.mem_of_getElem? (i := 3) rfl)) (hw _ (List.mem_of_getElem? (i := 114) rfl)) (by decide) (a := b1) (argsL := [(.int (Int32.ofNat A))]) (rest := []) (rmAc l Z a0 hw [] b1 x2_3 H A ((W + 63) / 64) w0 h5 n0 Z5 F5q0 F5q1 F5q4 F5q8 gn_b1 gn_x2_3 ne_b1_x2_3 (by omega) (by omega) hA0 (by omega)) e5 F5q0 pd_8 rfl (by rw [hml]; rfl) (W := 0) (by show 2 * 0 + _ ≤ _; exact Nat.le_of_eq rfl) (by decide) (by decide) (by decide) (by decide) (hb hby at_74) (Ls := #[.val (.int i0), .val (.int i1), .val (.int i2), .val (.int i3), .val (.int (Int32.ofNat W)), .val (.int (Int32.ofNat H)), .val (.int (Int32.ofNat (W + H))), .val (.int (Int32.ofNat A)), .val (.int (Int32.ofNat B)), .val (.ref b1), .unset, .unset, .unset, .unset, .unset, .unset])
      generalize e88 : T88.heap = h88 at q88
      obtain ⟨rfl, N88q, K88q, F88q0⟩ := q88
      have N88 := Fr.app N5 N88q
      have Z88 : n0 ≤ h88.size := Nat.le_trans Z5 K88q.1
      refine Go.step (st88) ?_
      show Go _ _ _ _ _ _ _ T88 (mkF m 77 #[_, _, _, _, _, _, _, _, _, _, _, _, _, _, _, _] [])
      have V89 : AV Z h88 x2_3 .long ((W + 63) / 64) (lv (wd1 (A - H))) := (w_or1 (A - H)) ▸ F88q0
      refine Go.step (fun tt kk => XS.aload X88.here hx rfl (hb hby at_77) rfl rfl kk) ?_
      show Go _ _ _ _ _ _ _ T88 (mkF m 79 #[_, _, _, _, _, _, _, _, _, _, _, _, _, _, _, _] [(.ref b1)])
      refine Go.step (fun tt kk => XS.iload X88.here hx rfl (hb hby at_79) rfl kk) ?_
      show Go _ _ _ _ _ _ _ T88 (mkF m 81 #[_, _, _, _, _, _, _, _, _, _, _, _, _, _, _, _] [(.int (Int32.ofNat B)), (.ref b1)])
      have f91 := (F5q0.keep K88q)
      have f92 := (F5q1.keep K88q (ninS ne_b1_x2_3 nin0))
      have f93 := (F5q3.keep K88q (ninS ne_b1_x2_3 nin0))
      have f94 := (F5q7.keep K88q (ninS ne_x2_2_x2_3 nin0))
      obtain ⟨v90, T90, L90, X90, q90, st90⟩ := c_virt X88 hx hZ hown (y' := (⟨"com/example/gridwright/gridwright/engine/LargeDraft", "await", "(I)V"⟩ : MethodName)) (y := (⟨"com/example/gridwright/gridwright/engine/LargeDraft", "await", "(I)V"⟩ : MethodName)) (C := "com/example/gridwright/gridwright/engine/LargeDraft") (hw _ (List.mem_of_getElem? (i := 110) rfl)) (hw _ (List.mem_of_getElem? (i := 111) rfl)) (notFace_of_selects (args := #[]) (mvT hZ (hw _ (List.mem_of_getElem? (i := 113) rfl)))) (hw _ (List.mem_of_getElem? (i := 113) rfl)) (hw _ (List.mem_of_getElem? (i := 112) rfl)) (hw _ (List.mem_of_getElem? (i := 3) rfl)) (hw _ (List.mem_of_getElem? (i := 114) rfl)) (by decide) (a := b1) (argsL := [(.int (Int32.ofNat B))]) (rest := []) (rmAr l Z a0 hw [] b1 x2_2 H B ((H + 63) / 64) w0 h88 n0 Z88 f91 f92 f93 f94 gn_b1 gn_x2_2 ne_b1_x2_2 (by omega) (by omega) hB0 (by omega)) e88 f91 pd_8 rfl (by rw [hml]; rfl) (W := 0) (by show 2 * 0 + _ ≤ _; exact Nat.le_of_eq rfl) (by decide) (by decide) (by decide) (by decide) (hb hby at_81) (Ls := #[.val (.int i0), .val (.int i1), .val (.int i2), .val (.int i3), .val (.int (Int32.ofNat W)), .val (.int (Int32.ofNat H)), .val (.int (Int32.ofNat (W + H))), .val (.int (Int32.ofNat A)), .val (.int (Int32.ofNat B)), .val (.ref b1), .unset, .unset, .unset, .unset, .unset, .unset])
      generalize e90 : T90.heap = h90 at q90
      obtain ⟨rfl, N90q, K90q, F90q0⟩ := q90
      have N90 := Fr.app N88 N90q
      have Z90 : n0 ≤ h90.size := Nat.le_trans Z88 K90q.1
      refine Go.step (st90) ?_
      show Go _ _ _ _ _ _ _ T90 (mkF m 84 #[_, _, _, _, _, _, _, _, _, _, _, _, _, _, _, _] [])
      have V95 : AV Z h90 x2_2 .long ((H + 63) / 64) (lv (wd1 B)) := (w_or1 B) ▸ F90q0
      obtain ⟨s1, s2, s3, s4⟩ := w_one B (by omega)
      obtain ⟨u1, u2, u3, u4⟩ := w_one (A - H) (by omega)
      refine Go.step (fun tt kk => XS.aload X90.here hx rfl (hb hby at_84) rfl rfl kk) ?_
      show Go _ _ _ _ _ _ _ T90 (mkF m 86 #[_, _, _, _, _, _, _, _, _, _, _, _, _, _, _, _] [(.ref b1)])
      have f97 := (f91.keep K90q)
      have f98 := (f92.keep K90q (ninS ne_b1_x2_2 nin0))
      have f99 := ((F5q2.keep K88q (ninS ne_b1_x2_3 nin0)).keep K90q (ninS ne_b1_x2_2 nin0))
      have f100 := (f93.keep K90q (ninS ne_b1_x2_2 nin0))
      have f101 := ((F5q4.keep K88q (ninS ne_b1_x2_3 nin0)).keep K90q (ninS ne_b1_x2_2 nin0))
      have f102 := ((F5q5.keep K88q (ninS ne_b1_x2_3 nin0)).keep K90q (ninS ne_b1_x2_2 nin0))
      have f103 := ((F5q6.keep K88q (ninS ne_b1_x2_3 nin0)).keep K90q (ninS ne_b1_x2_2 nin0))
      have f104 := (V89.keep K90q (ninS (Ne.symm ne_x2_2_x2_3) nin0))
      obtain ⟨v96, T96, L96, X96, q96, st96⟩ := c_virt X90 hx hZ hown (y' := (⟨"com/example/gridwright/gridwright/engine/LargeDraft", "next", "()I"⟩ : MethodName)) (y := (⟨"com/example/gridwright/gridwright/engine/LargeDraft", "next", "()I"⟩ : MethodName)) (C := "com/example/gridwright/gridwright/engine/LargeDraft") (hw _ (List.mem_of_getElem? (i := 115) rfl)) (hw _ (List.mem_of_getElem? (i := 116) rfl)) (notFace_of_selects (args := #[]) (mvT hZ (hw _ (List.mem_of_getElem? (i := 118) rfl)))) (hw _ (List.mem_of_getElem? (i := 118) rfl)) (hw _ (List.mem_of_getElem? (i := 117) rfl)) (hw _ (List.mem_of_getElem? (i := 3) rfl)) (hw _ (List.mem_of_getElem? (i := 119) rfl)) (by decide) (a := b1) (argsL := []) (rest := []) (rmNf1 l Z a0 hw [] b1 x2_2 x2_3 H ((H + 63) / 64) ((W + 63) / 64) 0 (B / 64) (0 : Int64) (wd1 B) (wd1 (A - H)) h90 n0 Z90 f97 f98 f99 f100 f101 f102 f103 V95 f104 gn_b1 gn_x2_2 gn_x2_3 ne_b1_x2_2 ne_b1_x2_3 ne_x2_2_x2_3 (by omega) (by omega) (by omega) (by omega) (fun j _ hj => s1 j (by omega)) s2) e90 f97 pd_5 rfl (by rw [hml]; rfl) (W := 0) (by show 2 * 0 + _ ≤ _; exact Nat.le_of_eq rfl) (by decide) (by decide) (by decide) (by decide) (hb hby at_86) (Ls := #[.val (.int i0), .val (.int i1), .val (.int i2), .val (.int i3), .val (.int (Int32.ofNat W)), .val (.int (Int32.ofNat H)), .val (.int (Int32.ofNat (W + H))), .val (.int (Int32.ofNat A)), .val (.int (Int32.ofNat B)), .val (.ref b1), .unset, .unset, .unset, .unset, .unset, .unset])
      generalize e96 : T96.heap = h96 at q96
      obtain ⟨x96_0, rfl, N96q, K96q, F96q0, F96q1, F96q2, F96q3, F96q4, F96q5, F96q6, F96q7, F96q8⟩ := q96
      have N96 := Fr.app N90 N96q
      have Z96 : n0 ≤ h96.size := Nat.le_trans Z90 K96q.1
      refine Go.step (st96) ?_
      show Go _ _ _ _ _ _ _ T96 (mkF m 89 #[_, _, _, _, _, _, _, _, _, _, _, _, _, _, _, _] [(.int ((64 : Int32) * Int32.ofNat (B / 64) + ntz ((wd1 B) (B / 64))))])
      rw [s3]
      show Go _ _ _ _ _ _ _ T96 (mkF m 89 #[.val (.int i0), .val (.int i1), .val (.int i2), .val (.int i3), .val (.int (Int32.ofNat W)), .val (.int (Int32.ofNat H)), .val (.int (Int32.ofNat (W + H))), .val (.int (Int32.ofNat A)), .val (.int (Int32.ofNat B)), .val (.ref b1), .unset, .unset, .unset, .unset, .unset, .unset] [(.int (Int32.ofNat B))])
      refine Go.step (fun tt kk => XS.istore X96.here hx rfl (hb hby at_89) rfl (l' := #[.val (.int i0), .val (.int i1), .val (.int i2), .val (.int i3), .val (.int (Int32.ofNat W)), .val (.int (Int32.ofNat H)), .val (.int (Int32.ofNat (W + H))), .val (.int (Int32.ofNat A)), .val (.int (Int32.ofNat B)), .val (.ref b1), .val (.int (Int32.ofNat B)), .unset, .unset, .unset, .unset, .unset]) rfl kk) ?_
      show Go _ _ _ _ _ _ _ T96 (mkF m 91 #[_, _, _, _, _, _, _, _, _, _, _, _, _, _, _, _] [])
      have V105 : AV Z h96 x2_2 .long ((H + 63) / 64) (lv w0) := s4 ▸ F96q7
      refine Go.step (fun tt kk => XS.aload X96.here hx rfl (hb hby at_91) rfl rfl kk) ?_
      show Go _ _ _ _ _ _ _ T96 (mkF m 93 #[_, _, _, _, _, _, _, _, _, _, _, _, _, _, _, _] [(.ref b1)])
      obtain ⟨v106, T106, L106, X106, q106, st106⟩ := c_virt X96 hx hZ hown (y' := (⟨"com/example/gridwright/gridwright/engine/LargeDraft", "next", "()I"⟩ : MethodName)) (y := (⟨"com/example/gridwright/gridwright/engine/LargeDraft", "next", "()I"⟩ : MethodName)) (C := "com/example/gridwright/gridwright/engine/LargeDraft") (hw _ (List.mem_of_getElem? (i := 115) rfl)) (hw _ (List.mem_of_getElem? (i := 116) rfl)) (notFace_of_selects (args := #[]) (mvT hZ (hw _ (List.mem_of_getElem? (i := 118) rfl)))) (hw _ (List.mem_of_getElem? (i := 118) rfl)) (hw _ (List.mem_of_getElem? (i := 117) rfl)) (hw _ (List.mem_of_getElem? (i := 3) rfl)) (hw _ (List.mem_of_getElem? (i := 119) rfl)) (by decide) (a := b1) (argsL := []) (rest := []) (rmNs1 l Z a0 hw [] b1 x2_2 x2_3 H ((H + 63) / 64) ((W + 63) / 64) (B / 64) ((A - H) / 64) x96_0 w0 (wd1 (A - H)) h96 n0 Z96 F96q0 F96q1 F96q2 F96q3 F96q4 F96q5 F96q6 V105 F96q8 gn_b1 gn_x2_2 gn_x2_3 ne_b1_x2_2 ne_b1_x2_3 ne_x2_2_x2_3 (by omega) (by omega) (by omega) (by omega) (fun _ _ _ => rfl) (fun j _ hj => u1 j (by omega)) u2) e96 F96q0 pd_5 rfl (by rw [hml]; rfl) (W := 0) (by show 2 * 0 + _ ≤ _; exact Nat.le_of_eq rfl) (by decide) (by decide) (by decide) (by decide) (hb hby at_93) (Ls := #[.val (.int i0), .val (.int i1), .val (.int i2), .val (.int i3), .val (.int (Int32.ofNat W)), .val (.int (Int32.ofNat H)), .val (.int (Int32.ofNat (W + H))), .val (.int (Int32.ofNat A)), .val (.int (Int32.ofNat B)), .val (.ref b1), .val (.int (Int32.ofNat B)), .unset, .unset, .unset, .unset, .unset])
      generalize e106 : T106.heap = h106 at q106
      obtain ⟨x106_0, rfl, N106q, K106q, F106q0, F106q1, F106q2, F106q3, F106q4, F106q5, F106q6, F106q7, F106q8⟩ := q106
      have N106 := Fr.app N96 N106q
      have Z106 : n0 ≤ h106.size := Nat.le_trans Z96 K106q.1
      refine Go.step (st106) ?_
      show Go _ _ _ _ _ _ _ T106 (mkF m 96 #[_, _, _, _, _, _, _, _, _, _, _, _, _, _, _, _] [(.int (Int32.ofNat H + ((64 : Int32) * Int32.ofNat ((A - H) / 64) + ntz ((wd1 (A - H)) ((A - H) / 64)))))])
      rw [u3, ← Int32.ofNat_add, show H + (A - H) = A by omega]
      show Go _ _ _ _ _ _ _ T106 (mkF m 96 #[.val (.int i0), .val (.int i1), .val (.int i2), .val (.int i3), .val (.int (Int32.ofNat W)), .val (.int (Int32.ofNat H)), .val (.int (Int32.ofNat (W + H))), .val (.int (Int32.ofNat A)), .val (.int (Int32.ofNat B)), .val (.ref b1), .val (.int (Int32.ofNat B)), .unset, .unset, .unset, .unset, .unset] [(.int (Int32.ofNat A))])
      refine Go.step (fun tt kk => XS.istore X106.here hx rfl (hb hby at_96) rfl (l' := #[.val (.int i0), .val (.int i1), .val (.int i2), .val (.int i3), .val (.int (Int32.ofNat W)), .val (.int (Int32.ofNat H)), .val (.int (Int32.ofNat (W + H))), .val (.int (Int32.ofNat A)), .val (.int (Int32.ofNat B)), .val (.ref b1), .val (.int (Int32.ofNat B)), .val (.int (Int32.ofNat A)), .unset, .unset, .unset, .unset]) rfl kk) ?_
      show Go _ _ _ _ _ _ _ T106 (mkF m 98 #[_, _, _, _, _, _, _, _, _, _, _, _, _, _, _, _] [])
      have V107 : AV Z h106 x2_3 .long ((W + 63) / 64) (lv w0) := u4 ▸ F106q8
      refine Go.step (fun tt kk => XS.aload X106.here hx rfl (hb hby at_98) rfl rfl kk) ?_
      show Go _ _ _ _ _ _ _ T106 (mkF m 100 #[_, _, _, _, _, _, _, _, _, _, _, _, _, _, _, _] [(.ref b1)])
      obtain ⟨v108, T108, L108, X108, q108, st108⟩ := c_virt X106 hx hZ hown (y' := (⟨"com/example/gridwright/gridwright/engine/LargeDraft", "next", "()I"⟩ : MethodName)) (y := (⟨"com/example/gridwright/gridwright/engine/LargeDraft", "next", "()I"⟩ : MethodName)) (C := "com/example/gridwright/gridwright/engine/LargeDraft") (hw _ (List.mem_of_getElem? (i := 115) rfl)) (hw _ (List.mem_of_getElem? (i := 116) rfl)) (notFace_of_selects (args := #[]) (mvT hZ (hw _ (List.mem_of_getElem? (i := 118) rfl)))) (hw _ (List.mem_of_getElem? (i := 118) rfl)) (hw _ (List.mem_of_getElem? (i := 117) rfl)) (hw _ (List.mem_of_getElem? (i := 3) rfl)) (hw _ (List.mem_of_getElem? (i := 119) rfl)) (by decide) (a := b1) (argsL := []) (rest := []) (rmNn0 l Z a0 hw [] b1 x2_2 x2_3 H ((H + 63) / 64) ((W + 63) / 64) ((A - H) / 64) 0 x106_0 w0 w0 h106 n0 Z106 F106q0 F106q1 F106q2 F106q3 F106q4 F106q5 F106q6 F106q7 V107 gn_b1 gn_x2_2 gn_x2_3 ne_b1_x2_2 ne_b1_x2_3 ne_x2_2_x2_3 (by omega) (by omega) (by omega) (fun _ _ _ => rfl) (fun _ _ _ => rfl)) e106 F106q0 pd_5 rfl (by rw [hml]; rfl) (W := 0) (by show 2 * 0 + _ ≤ _; exact Nat.le_of_eq rfl) (by decide) (by decide) (by decide) (by decide) (hb hby at_100) (Ls := #[.val (.int i0), .val (.int i1), .val (.int i2), .val (.int i3), .val (.int (Int32.ofNat W)), .val (.int (Int32.ofNat H)), .val (.int (Int32.ofNat (W + H))), .val (.int (Int32.ofNat A)), .val (.int (Int32.ofNat B)), .val (.ref b1), .val (.int (Int32.ofNat B)), .val (.int (Int32.ofNat A)), .unset, .unset, .unset, .unset])
      generalize e108 : T108.heap = h108 at q108
      obtain ⟨x108_0, rfl, N108q, K108q, F108q0, F108q1, F108q2, F108q3, F108q4, F108q5, F108q6, F108q7, F108q8⟩ := q108
      have N108 := Fr.app N106 N108q
      have Z108 : n0 ≤ h108.size := Nat.le_trans Z106 K108q.1
      refine Go.step (st108) ?_
      show Go _ _ _ _ _ _ _ T108 (mkF m 103 #[_, _, _, _, _, _, _, _, _, _, _, _, _, _, _, _] [(.int (-1 : Int32))])
      refine Go.step (fun tt kk => XS.istore X108.here hx rfl (hb hby at_103) rfl (l' := #[.val (.int i0), .val (.int i1), .val (.int i2), .val (.int i3), .val (.int (Int32.ofNat W)), .val (.int (Int32.ofNat H)), .val (.int (Int32.ofNat (W + H))), .val (.int (Int32.ofNat A)), .val (.int (Int32.ofNat B)), .val (.ref b1), .val (.int (Int32.ofNat B)), .val (.int (Int32.ofNat A)), .val (.int (-1 : Int32)), .unset, .unset, .unset]) rfl kk) ?_
      show Go _ _ _ _ _ _ _ T108 (mkF m 105 #[_, _, _, _, _, _, _, _, _, _, _, _, _, _, _, _] [])
      refine Go.step (fun tt kk => XS.iload X108.here hx rfl (hb hby at_105) rfl kk) ?_
      show Go _ _ _ _ _ _ _ T108 (mkF m 107 #[_, _, _, _, _, _, _, _, _, _, _, _, _, _, _, _] [(.int (Int32.ofNat A))])
      refine Go.step (fun tt kk => XS.iload X108.here hx rfl (hb hby at_107) rfl kk) ?_
      show Go _ _ _ _ _ _ _ T108 (mkF m 109 #[_, _, _, _, _, _, _, _, _, _, _, _, _, _, _, _] [(.int (Int32.ofNat B)), (.int (Int32.ofNat A))])
      obtain ⟨v109, T109, L109, X109, q109, st109⟩ := c_static X108 hx hZ hown (y := (⟨"java/lang/Math", "min", "(II)I"⟩ : MethodName)) (hw _ (List.mem_of_getElem? (i := 131) rfl)) (hw _ (List.mem_of_getElem? (i := 132) rfl)) (hw _ (List.mem_of_getElem? (i := 21) rfl)) (hw _ (List.mem_of_getElem? (i := 133) rfl)) (by decide) (argsL := [(.int (Int32.ofNat A)), (.int (Int32.ofNat B))]) (rest := []) (rmmn l Z a0 hw [] (Int32.ofNat A) (Int32.ofNat B) h108 n0 Z108) e108 pd_0 rfl (by rw [hml]; rfl) (W := 0) (by show 2 * 0 + _ ≤ _; exact Nat.le_of_eq rfl) (by decide) (by decide) (by decide) (by decide) (hb hby at_109) (Ls := #[.val (.int i0), .val (.int i1), .val (.int i2), .val (.int i3), .val (.int (Int32.ofNat W)), .val (.int (Int32.ofNat H)), .val (.int (Int32.ofNat (W + H))), .val (.int (Int32.ofNat A)), .val (.int (Int32.ofNat B)), .val (.ref b1), .val (.int (Int32.ofNat B)), .val (.int (Int32.ofNat A)), .val (.int (-1 : Int32)), .unset, .unset, .unset])
      obtain ⟨rfl, rfl, e109⟩ := q109
      have N109 := Fr.app N108 (Fr.nil n0)
      refine Go.step (st109) ?_
      show Go _ _ _ _ _ _ _ T109 (mkF m 112 #[_, _, _, _, _, _, _, _, _, _, _, _, _, _, _, _] [(.int (mn (Int32.ofNat A) (Int32.ofNat B)))])
      rw [own_min _ _ (by omega) (by omega)]
      show Go _ _ _ _ _ _ _ T109 (mkF m 112 #[.val (.int i0), .val (.int i1), .val (.int i2), .val (.int i3), .val (.int (Int32.ofNat W)), .val (.int (Int32.ofNat H)), .val (.int (Int32.ofNat (W + H))), .val (.int (Int32.ofNat A)), .val (.int (Int32.ofNat B)), .val (.ref b1), .val (.int (Int32.ofNat B)), .val (.int (Int32.ofNat A)), .val (.int (-1 : Int32)), .unset, .unset, .unset] [(.int (Int32.ofNat (min A B)))])
      refine Go.step (fun tt kk => XS.istore X109.here hx rfl (hb hby at_112) rfl (l' := #[.val (.int i0), .val (.int i1), .val (.int i2), .val (.int i3), .val (.int (Int32.ofNat W)), .val (.int (Int32.ofNat H)), .val (.int (Int32.ofNat (W + H))), .val (.int (Int32.ofNat A)), .val (.int (Int32.ofNat B)), .val (.ref b1), .val (.int (Int32.ofNat B)), .val (.int (Int32.ofNat A)), .val (.int (-1 : Int32)), .val (.int (Int32.ofNat (min A B))), .unset, .unset]) rfl kk) ?_
      show Go _ _ _ _ _ _ _ T109 (mkF m 114 #[_, _, _, _, _, _, _, _, _, _, _, _, _, _, _, _] [])
      refine Go.step (fun tt kk => XS.iload X109.here hx rfl (hb hby at_114) rfl kk) ?_
      show Go _ _ _ _ _ _ _ T109 (mkF m 116 #[_, _, _, _, _, _, _, _, _, _, _, _, _, _, _, _] [(.int (Int32.ofNat A))])
      refine Go.step (fun tt kk => XS.iload X109.here hx rfl (hb hby at_116) rfl kk) ?_
      show Go _ _ _ _ _ _ _ T109 (mkF m 118 #[_, _, _, _, _, _, _, _, _, _, _, _, _, _, _, _] [(.int (Int32.ofNat B)), (.int (Int32.ofNat A))])
      obtain ⟨v110, T110, L110, X110, q110, st110⟩ := c_static X109 hx hZ hown (y := (⟨"java/lang/Math", "max", "(II)I"⟩ : MethodName)) (hw _ (List.mem_of_getElem? (i := 134) rfl)) (hw _ (List.mem_of_getElem? (i := 20) rfl)) (hw _ (List.mem_of_getElem? (i := 21) rfl)) (hw _ (List.mem_of_getElem? (i := 22) rfl)) (by decide) (argsL := [(.int (Int32.ofNat A)), (.int (Int32.ofNat B))]) (rest := []) (rmmx l Z a0 hw [] (Int32.ofNat A) (Int32.ofNat B) h108 n0 Z108) e109 pd_0 rfl (by rw [hml]; rfl) (W := 0) (by show 2 * 0 + _ ≤ _; exact Nat.le_of_eq rfl) (by decide) (by decide) (by decide) (by decide) (hb hby at_118) (Ls := #[.val (.int i0), .val (.int i1), .val (.int i2), .val (.int i3), .val (.int (Int32.ofNat W)), .val (.int (Int32.ofNat H)), .val (.int (Int32.ofNat (W + H))), .val (.int (Int32.ofNat A)), .val (.int (Int32.ofNat B)), .val (.ref b1), .val (.int (Int32.ofNat B)), .val (.int (Int32.ofNat A)), .val (.int (-1 : Int32)), .val (.int (Int32.ofNat (min A B))), .unset, .unset])
      obtain ⟨rfl, rfl, e110⟩ := q110
      have N110 := Fr.app N109 (Fr.nil n0)
      refine Go.step (st110) ?_
      show Go _ _ _ _ _ _ _ T110 (mkF m 121 #[_, _, _, _, _, _, _, _, _, _, _, _, _, _, _, _] [(.int (mx (Int32.ofNat A) (Int32.ofNat B)))])
      rw [own_max _ _ (by omega) (by omega)]
      show Go _ _ _ _ _ _ _ T110 (mkF m 121 #[.val (.int i0), .val (.int i1), .val (.int i2), .val (.int i3), .val (.int (Int32.ofNat W)), .val (.int (Int32.ofNat H)), .val (.int (Int32.ofNat (W + H))), .val (.int (Int32.ofNat A)), .val (.int (Int32.ofNat B)), .val (.ref b1), .val (.int (Int32.ofNat B)), .val (.int (Int32.ofNat A)), .val (.int (-1 : Int32)), .val (.int (Int32.ofNat (min A B))), .unset, .unset] [(.int (Int32.ofNat (max A B)))])
      refine Go.step (fun tt kk => XS.istore X110.here hx rfl (hb hby at_121) rfl (l' := #[.val (.int i0), .val (.int i1), .val (.int i2), .val (.int i3), .val (.int (Int32.ofNat W)), .val (.int (Int32.ofNat H)), .val (.int (Int32.ofNat (W + H))), .val (.int (Int32.ofNat A)), .val (.int (Int32.ofNat B)), .val (.ref b1), .val (.int (Int32.ofNat B)), .val (.int (Int32.ofNat A)), .val (.int (-1 : Int32)), .val (.int (Int32.ofNat (min A B))), .val (.int (Int32.ofNat (max A B))), .unset]) rfl kk) ?_
      show Go _ _ _ _ _ _ _ T110 (mkF m 123 #[_, _, _, _, _, _, _, _, _, _, _, _, _, _, _, _] [])
      refine Go.step (fun tt kk => XS.iload X110.here hx rfl (hb hby at_123) rfl kk) ?_
      show Go _ _ _ _ _ _ _ T110 (mkF m 125 #[_, _, _, _, _, _, _, _, _, _, _, _, _, _, _, _] [(.int (Int32.ofNat (min A B)))])
      refine Go.step (fun tt kk => XS.iload X110.here hx rfl (hb hby at_125) rfl kk) ?_
      show Go _ _ _ _ _ _ _ T110 (mkF m 127 #[_, _, _, _, _, _, _, _, _, _, _, _, _, _, _, _] [(.int (Int32.ofNat (max A B))), (.int (Int32.ofNat (min A B)))])
      refine Go.step (fun tt kk => XS.icmpYes X110.here hx rfl (pc0 := 127) (pc' := 134) rfl (hb hby at_127) rfl (feq (mt (own_eq _ _ (by omega) (by omega)).mp (by omega))).2 (by decide) (by decide) kk) ?_
      show Go _ _ _ _ _ _ _ T110 (mkF m 134 #[_, _, _, _, _, _, _, _, _, _, _, _, _, _, _, _] [])
      refine Go.step (fun tt kk => XS.iload X110.here hx rfl (hb hby at_134) rfl kk) ?_
      show Go _ _ _ _ _ _ _ T110 (mkF m 136 #[_, _, _, _, _, _, _, _, _, _, _, _, _, _, _, _] [(.int (Int32.ofNat (max A B)))])
      refine Go.step (fun tt kk => XS.istore X110.here hx rfl (hb hby at_136) rfl (l' := #[.val (.int i0), .val (.int i1), .val (.int i2), .val (.int i3), .val (.int (Int32.ofNat W)), .val (.int (Int32.ofNat H)), .val (.int (Int32.ofNat (W + H))), .val (.int (Int32.ofNat A)), .val (.int (Int32.ofNat B)), .val (.ref b1), .val (.int (Int32.ofNat B)), .val (.int (Int32.ofNat A)), .val (.int (-1 : Int32)), .val (.int (Int32.ofNat (min A B))), .val (.int (Int32.ofNat (max A B))), .val (.int (Int32.ofNat (max A B)))]) rfl kk) ?_
      show Go _ _ _ _ _ _ _ T110 (mkF m 138 #[_, _, _, _, _, _, _, _, _, _, _, _, _, _, _, _] [])
      refine Go.step (fun tt kk => XS.iload X110.here hx rfl (hb hby at_138) rfl kk) ?_
      show Go _ _ _ _ _ _ _ T110 (mkF m 140 #[_, _, _, _, _, _, _, _, _, _, _, _, _, _, _, _] [(.int (Int32.ofNat B))])
      refine Go.step (fun tt kk => XS.iload X110.here hx rfl (hb hby at_140) rfl kk) ?_
      show Go _ _ _ _ _ _ _ T110 (mkF m 142 #[_, _, _, _, _, _, _, _, _, _, _, _, _, _, _, _] [(.int (Int32.ofNat (min A B))), (.int (Int32.ofNat B))])
      refine Go.step (fun tt kk => XS.icmpNo X110.here hx rfl (hb hby at_142) rfl (teq ((own_eq _ _ (by omega) (by omega)).mpr (by omega))).2 kk) ?_
      show Go _ _ _ _ _ _ _ T110 (mkF m 145 #[_, _, _, _, _, _, _, _, _, _, _, _, _, _, _, _] [])
      refine Go.step (fun tt kk => XS.iload X110.here hx rfl (hb hby at_145) rfl kk) ?_
      show Go _ _ _ _ _ _ _ T110 (mkF m 147 #[_, _, _, _, _, _, _, _, _, _, _, _, _, _, _, _] [(.int (Int32.ofNat A))])
      refine Go.step (fun tt kk => XS.iload X110.here hx rfl (hb hby at_147) rfl kk) ?_
      show Go _ _ _ _ _ _ _ T110 (mkF m 149 #[_, _, _, _, _, _, _, _, _, _, _, _, _, _, _, _] [(.int (Int32.ofNat (max A B))), (.int (Int32.ofNat A))])
      refine Go.step (fun tt kk => XS.icmpNo X110.here hx rfl (hb hby at_149) rfl (teq ((own_eq _ _ (by omega) (by omega)).mpr (by omega))).2 kk) ?_
      show Go _ _ _ _ _ _ _ T110 (mkF m 152 #[_, _, _, _, _, _, _, _, _, _, _, _, _, _, _, _] [])
      refine Go.step (fun tt kk => XS.iload X110.here hx rfl (hb hby at_152) rfl kk) ?_
      show Go _ _ _ _ _ _ _ T110 (mkF m 154 #[_, _, _, _, _, _, _, _, _, _, _, _, _, _, _, _] [(.int (-1 : Int32))])
      refine Go.step (fun tt kk => XS.iconst X110.here hx rfl (hb hby at_154) kk) ?_
      show Go _ _ _ _ _ _ _ T110 (mkF m 155 #[_, _, _, _, _, _, _, _, _, _, _, _, _, _, _, _] [(.int (-1 : Int32)), (.int (-1 : Int32))])
      refine Go.step (fun tt kk => XS.icmpNo X110.here hx rfl (hb hby at_155) rfl (teq rfl).2 kk) ?_
      show Go _ _ _ _ _ _ _ T110 (mkF m 158 #[_, _, _, _, _, _, _, _, _, _, _, _, _, _, _, _] [])
      refine Go.step (fun tt kk => XS.iconst X110.here hx rfl (hb hby at_158) kk) ?_
      show Go _ _ _ _ _ _ _ T110 (mkF m 159 #[_, _, _, _, _, _, _, _, _, _, _, _, _, _, _, _] [(.int (1 : Int32))])
      refine Go.step (fun tt kk => XS.goto X110.here hx rfl (pc0 := 159) (pc' := 163) rfl (hb hby at_159) (by decide) (by decide) kk) ?_
      show Go _ _ _ _ _ _ _ T110 (mkF m 163 #[_, _, _, _, _, _, _, _, _, _, _, _, _, _, _, _] [(.int (1 : Int32))])
      refine go_retN X110 hx (t := .boolean) hret (by simp) hlk (hb hby at_163) (w := (1 : Int32)) rfl ?_ (by decide) (by decide)
      try rw [e110]
      exact ⟨rfl, N110⟩
    · by_cases hAB : A = B
      · show Go _ _ _ _ _ _ _ T5 (mkF m 70 #[.val (.int i0), .val (.int i1), .val (.int i2), .val (.int i3), .val (.int (Int32.ofNat W)), .val (.int (Int32.ofNat H)), .val (.int (Int32.ofNat (W + H))), .val (.int (Int32.ofNat A)), .val (.int (Int32.ofNat B)), .val (.ref b1), .unset, .unset, .unset, .unset, .unset, .unset] [])
        refine Go.step (fun tt kk => XS.aload X5.here hx rfl (hb hby at_70) rfl rfl kk) ?_
        show Go _ _ _ _ _ _ _ T5 (mkF m 72 #[_, _, _, _, _, _, _, _, _, _, _, _, _, _, _, _] [(.ref b1)])
        refine Go.step (fun tt kk => XS.iload X5.here hx rfl (hb hby at_72) rfl kk) ?_
        show Go _ _ _ _ _ _ _ T5 (mkF m 74 #[_, _, _, _, _, _, _, _, _, _, _, _, _, _, _, _] [(.int (Int32.ofNat A)), (.ref b1)])
        obtain ⟨v111, T111, L111, X111, q111, st111⟩ := c_virt X5 hx hZ hown (y' := (⟨"com/example/gridwright/gridwright/engine/LargeDraft", "await", "(I)V"⟩ : MethodName)) (y := (⟨"com/example/gridwright/gridwright/engine/LargeDraft", "await", "(I)V"⟩ : MethodName)) (C := "com/example/gridwright/gridwright/engine/LargeDraft") (hw _ (List.mem_of_getElem? (i := 110) rfl)) (hw _ (List.mem_of_getElem? (i := 111) rfl)) (notFace_of_selects (args := #[]) (mvT hZ (hw _ (List.mem_of_getElem? (i := 113) rfl)))) (hw _ (List.mem_of_getElem? (i := 113) rfl)) (hw _ (List.mem_of_getElem? (i := 112) rfl)) (hw _ (List.mem_of_getElem? (i := 3) rfl)) (hw _ (List.mem_of_getElem? (i := 114) rfl)) (by decide) (a := b1) (argsL := [(.int (Int32.ofNat A))]) (rest := []) (rmAc l Z a0 hw [] b1 x2_3 H A ((W + 63) / 64) w0 h5 n0 Z5 F5q0 F5q1 F5q4 F5q8 gn_b1 gn_x2_3 ne_b1_x2_3 (by omega) (by omega) hA0 (by omega)) e5 F5q0 pd_8 rfl (by rw [hml]; rfl) (W := 0) (by show 2 * 0 + _ ≤ _; exact Nat.le_of_eq rfl) (by decide) (by decide) (by decide) (by decide) (hb hby at_74) (Ls := #[.val (.int i0), .val (.int i1), .val (.int i2), .val (.int i3), .val (.int (Int32.ofNat W)), .val (.int (Int32.ofNat H)), .val (.int (Int32.ofNat (W + H))), .val (.int (Int32.ofNat A)), .val (.int (Int32.ofNat B)), .val (.ref b1), .unset, .unset, .unset, .unset, .unset, .unset])
        generalize e111 : T111.heap = h111 at q111
        obtain ⟨rfl, N111q, K111q, F111q0⟩ := q111
        have N111 := Fr.app N5 N111q
        have Z111 : n0 ≤ h111.size := Nat.le_trans Z5 K111q.1
        refine Go.step (st111) ?_
        show Go _ _ _ _ _ _ _ T111 (mkF m 77 #[_, _, _, _, _, _, _, _, _, _, _, _, _, _, _, _] [])
        have V112 : AV Z h111 x2_3 .long ((W + 63) / 64) (lv (wd1 (A - H))) := (w_or1 (A - H)) ▸ F111q0
        refine Go.step (fun tt kk => XS.aload X111.here hx rfl (hb hby at_77) rfl rfl kk) ?_
        show Go _ _ _ _ _ _ _ T111 (mkF m 79 #[_, _, _, _, _, _, _, _, _, _, _, _, _, _, _, _] [(.ref b1)])
        refine Go.step (fun tt kk => XS.iload X111.here hx rfl (hb hby at_79) rfl kk) ?_
        show Go _ _ _ _ _ _ _ T111 (mkF m 81 #[_, _, _, _, _, _, _, _, _, _, _, _, _, _, _, _] [(.int (Int32.ofNat B)), (.ref b1)])
        have f114 := (F5q0.keep K111q)
        have f115 := (F5q1.keep K111q (ninS ne_b1_x2_3 nin0))
        have f116 := (F5q4.keep K111q (ninS ne_b1_x2_3 nin0))
        obtain ⟨v113, T113, L113, X113, q113, st113⟩ := c_virt X111 hx hZ hown (y' := (⟨"com/example/gridwright/gridwright/engine/LargeDraft", "await", "(I)V"⟩ : MethodName)) (y := (⟨"com/example/gridwright/gridwright/engine/LargeDraft", "await", "(I)V"⟩ : MethodName)) (C := "com/example/gridwright/gridwright/engine/LargeDraft") (hw _ (List.mem_of_getElem? (i := 110) rfl)) (hw _ (List.mem_of_getElem? (i := 111) rfl)) (notFace_of_selects (args := #[]) (mvT hZ (hw _ (List.mem_of_getElem? (i := 113) rfl)))) (hw _ (List.mem_of_getElem? (i := 113) rfl)) (hw _ (List.mem_of_getElem? (i := 112) rfl)) (hw _ (List.mem_of_getElem? (i := 3) rfl)) (hw _ (List.mem_of_getElem? (i := 114) rfl)) (by decide) (a := b1) (argsL := [(.int (Int32.ofNat B))]) (rest := []) (rmAc l Z a0 hw [] b1 x2_3 H B ((W + 63) / 64) (wd1 (A - H)) h111 n0 Z111 f114 f115 f116 V112 gn_b1 gn_x2_3 ne_b1_x2_3 (by omega) (by omega) hB0 (by omega)) e111 f114 pd_8 rfl (by rw [hml]; rfl) (W := 0) (by show 2 * 0 + _ ≤ _; exact Nat.le_of_eq rfl) (by decide) (by decide) (by decide) (by decide) (hb hby at_81) (Ls := #[.val (.int i0), .val (.int i1), .val (.int i2), .val (.int i3), .val (.int (Int32.ofNat W)), .val (.int (Int32.ofNat H)), .val (.int (Int32.ofNat (W + H))), .val (.int (Int32.ofNat A)), .val (.int (Int32.ofNat B)), .val (.ref b1), .unset, .unset, .unset, .unset, .unset, .unset])
        generalize e113 : T113.heap = h113 at q113
        obtain ⟨rfl, N113q, K113q, F113q0⟩ := q113
        have N113 := Fr.app N111 N113q
        have Z113 : n0 ≤ h113.size := Nat.le_trans Z111 K113q.1
        refine Go.step (st113) ?_
        show Go _ _ _ _ _ _ _ T113 (mkF m 84 #[_, _, _, _, _, _, _, _, _, _, _, _, _, _, _, _] [])
        have V117 : AV Z h113 x2_3 .long ((W + 63) / 64) (lv (wd1 (A - H))) := (show orAt (wd1 (A - H)) ((B - H) / 64) (sh (Int32.ofNat (B - H))) = wd1 (A - H) by rw [← hAB, w_or2', w_same]) ▸ F113q0
        obtain ⟨s1, s2, s3, s4⟩ := w_one (A - H) (by omega)
        refine Go.step (fun tt kk => XS.aload X113.here hx rfl (hb hby at_84) rfl rfl kk) ?_
        show Go _ _ _ _ _ _ _ T113 (mkF m 86 #[_, _, _, _, _, _, _, _, _, _, _, _, _, _, _, _] [(.ref b1)])
        have f119 := (f114.keep K113q)
        have f120 := (f115.keep K113q (ninS ne_b1_x2_3 nin0))
        have f121 := ((F5q2.keep K111q (ninS ne_b1_x2_3 nin0)).keep K113q (ninS ne_b1_x2_3 nin0))
        have f122 := ((F5q3.keep K111q (ninS ne_b1_x2_3 nin0)).keep K113q (ninS ne_b1_x2_3 nin0))
        have f123 := (f116.keep K113q (ninS ne_b1_x2_3 nin0))
        have f124 := ((F5q5.keep K111q (ninS ne_b1_x2_3 nin0)).keep K113q (ninS ne_b1_x2_3 nin0))
        have f125 := ((F5q6.keep K111q (ninS ne_b1_x2_3 nin0)).keep K113q (ninS ne_b1_x2_3 nin0))
        have f126 := ((F5q7.keep K111q (ninS ne_x2_2_x2_3 nin0)).keep K113q (ninS ne_x2_2_x2_3 nin0))
        obtain ⟨v118, T118, L118, X118, q118, st118⟩ := c_virt X113 hx hZ hown (y' := (⟨"com/example/gridwright/gridwright/engine/LargeDraft", "next", "()I"⟩ : MethodName)) (y := (⟨"com/example/gridwright/gridwright/engine/LargeDraft", "next", "()I"⟩ : MethodName)) (C := "com/example/gridwright/gridwright/engine/LargeDraft") (hw _ (List.mem_of_getElem? (i := 115) rfl)) (hw _ (List.mem_of_getElem? (i := 116) rfl)) (notFace_of_selects (args := #[]) (mvT hZ (hw _ (List.mem_of_getElem? (i := 118) rfl)))) (hw _ (List.mem_of_getElem? (i := 118) rfl)) (hw _ (List.mem_of_getElem? (i := 117) rfl)) (hw _ (List.mem_of_getElem? (i := 3) rfl)) (hw _ (List.mem_of_getElem? (i := 119) rfl)) (by decide) (a := b1) (argsL := []) (rest := []) (rmNs1 l Z a0 hw [] b1 x2_2 x2_3 H ((H + 63) / 64) ((W + 63) / 64) 0 ((A - H) / 64) (0 : Int64) w0 (wd1 (A - H)) h113 n0 Z113 f119 f120 f121 f122 f123 f124 f125 f126 V117 gn_b1 gn_x2_2 gn_x2_3 ne_b1_x2_2 ne_b1_x2_3 ne_x2_2_x2_3 (by omega) (by omega) (by omega) (by omega) (fun _ _ _ => rfl) (fun j _ hj => s1 j (by omega)) s2) e113 f119 pd_5 rfl (by rw [hml]; rfl) (W := 0) (by show 2 * 0 + _ ≤ _; exact Nat.le_of_eq rfl) (by decide) (by decide) (by decide) (by decide) (hb hby at_86) (Ls := #[.val (.int i0), .val (.int i1), .val (.int i2), .val (.int i3), .val (.int (Int32.ofNat W)), .val (.int (Int32.ofNat H)), .val (.int (Int32.ofNat (W + H))), .val (.int (Int32.ofNat A)), .val (.int (Int32.ofNat B)), .val (.ref b1), .unset, .unset, .unset, .unset, .unset, .unset])
        generalize e118 : T118.heap = h118 at q118
        obtain ⟨x118_0, rfl, N118q, K118q, F118q0, F118q1, F118q2, F118q3, F118q4, F118q5, F118q6, F118q7, F118q8⟩ := q118
        have N118 := Fr.app N113 N118q
        have Z118 : n0 ≤ h118.size := Nat.le_trans Z113 K118q.1
        refine Go.step (st118) ?_
        show Go _ _ _ _ _ _ _ T118 (mkF m 89 #[_, _, _, _, _, _, _, _, _, _, _, _, _, _, _, _] [(.int (Int32.ofNat H + ((64 : Int32) * Int32.ofNat ((A - H) / 64) + ntz ((wd1 (A - H)) ((A - H) / 64)))))])
        rw [s3, ← Int32.ofNat_add, show H + (A - H) = A by omega]
        show Go _ _ _ _ _ _ _ T118 (mkF m 89 #[.val (.int i0), .val (.int i1), .val (.int i2), .val (.int i3), .val (.int (Int32.ofNat W)), .val (.int (Int32.ofNat H)), .val (.int (Int32.ofNat (W + H))), .val (.int (Int32.ofNat A)), .val (.int (Int32.ofNat B)), .val (.ref b1), .unset, .unset, .unset, .unset, .unset, .unset] [(.int (Int32.ofNat A))])
        refine Go.step (fun tt kk => XS.istore X118.here hx rfl (hb hby at_89) rfl (l' := #[.val (.int i0), .val (.int i1), .val (.int i2), .val (.int i3), .val (.int (Int32.ofNat W)), .val (.int (Int32.ofNat H)), .val (.int (Int32.ofNat (W + H))), .val (.int (Int32.ofNat A)), .val (.int (Int32.ofNat B)), .val (.ref b1), .val (.int (Int32.ofNat A)), .unset, .unset, .unset, .unset, .unset]) rfl kk) ?_
        show Go _ _ _ _ _ _ _ T118 (mkF m 91 #[_, _, _, _, _, _, _, _, _, _, _, _, _, _, _, _] [])
        have V127 : AV Z h118 x2_3 .long ((W + 63) / 64) (lv w0) := s4 ▸ F118q8
        refine Go.step (fun tt kk => XS.aload X118.here hx rfl (hb hby at_91) rfl rfl kk) ?_
        show Go _ _ _ _ _ _ _ T118 (mkF m 93 #[_, _, _, _, _, _, _, _, _, _, _, _, _, _, _, _] [(.ref b1)])
        obtain ⟨v128, T128, L128, X128, q128, st128⟩ := c_virt X118 hx hZ hown (y' := (⟨"com/example/gridwright/gridwright/engine/LargeDraft", "next", "()I"⟩ : MethodName)) (y := (⟨"com/example/gridwright/gridwright/engine/LargeDraft", "next", "()I"⟩ : MethodName)) (C := "com/example/gridwright/gridwright/engine/LargeDraft") (hw _ (List.mem_of_getElem? (i := 115) rfl)) (hw _ (List.mem_of_getElem? (i := 116) rfl)) (notFace_of_selects (args := #[]) (mvT hZ (hw _ (List.mem_of_getElem? (i := 118) rfl)))) (hw _ (List.mem_of_getElem? (i := 118) rfl)) (hw _ (List.mem_of_getElem? (i := 117) rfl)) (hw _ (List.mem_of_getElem? (i := 3) rfl)) (hw _ (List.mem_of_getElem? (i := 119) rfl)) (by decide) (a := b1) (argsL := []) (rest := []) (rmNn0 l Z a0 hw [] b1 x2_2 x2_3 H ((H + 63) / 64) ((W + 63) / 64) ((A - H) / 64) 0 x118_0 w0 w0 h118 n0 Z118 F118q0 F118q1 F118q2 F118q3 F118q4 F118q5 F118q6 F118q7 V127 gn_b1 gn_x2_2 gn_x2_3 ne_b1_x2_2 ne_b1_x2_3 ne_x2_2_x2_3 (by omega) (by omega) (by omega) (fun _ _ _ => rfl) (fun _ _ _ => rfl)) e118 F118q0 pd_5 rfl (by rw [hml]; rfl) (W := 0) (by show 2 * 0 + _ ≤ _; exact Nat.le_of_eq rfl) (by decide) (by decide) (by decide) (by decide) (hb hby at_93) (Ls := #[.val (.int i0), .val (.int i1), .val (.int i2), .val (.int i3), .val (.int (Int32.ofNat W)), .val (.int (Int32.ofNat H)), .val (.int (Int32.ofNat (W + H))), .val (.int (Int32.ofNat A)), .val (.int (Int32.ofNat B)), .val (.ref b1), .val (.int (Int32.ofNat A)), .unset, .unset, .unset, .unset, .unset])
        generalize e128 : T128.heap = h128 at q128
        obtain ⟨x128_0, rfl, N128q, K128q, F128q0, F128q1, F128q2, F128q3, F128q4, F128q5, F128q6, F128q7, F128q8⟩ := q128
        have N128 := Fr.app N118 N128q
        have Z128 : n0 ≤ h128.size := Nat.le_trans Z118 K128q.1
        refine Go.step (st128) ?_
        show Go _ _ _ _ _ _ _ T128 (mkF m 96 #[_, _, _, _, _, _, _, _, _, _, _, _, _, _, _, _] [(.int (-1 : Int32))])
        refine Go.step (fun tt kk => XS.istore X128.here hx rfl (hb hby at_96) rfl (l' := #[.val (.int i0), .val (.int i1), .val (.int i2), .val (.int i3), .val (.int (Int32.ofNat W)), .val (.int (Int32.ofNat H)), .val (.int (Int32.ofNat (W + H))), .val (.int (Int32.ofNat A)), .val (.int (Int32.ofNat B)), .val (.ref b1), .val (.int (Int32.ofNat A)), .val (.int (-1 : Int32)), .unset, .unset, .unset, .unset]) rfl kk) ?_
        show Go _ _ _ _ _ _ _ T128 (mkF m 98 #[_, _, _, _, _, _, _, _, _, _, _, _, _, _, _, _] [])
        refine Go.step (fun tt kk => XS.aload X128.here hx rfl (hb hby at_98) rfl rfl kk) ?_
        show Go _ _ _ _ _ _ _ T128 (mkF m 100 #[_, _, _, _, _, _, _, _, _, _, _, _, _, _, _, _] [(.ref b1)])
        obtain ⟨v129, T129, L129, X129, q129, st129⟩ := c_virt X128 hx hZ hown (y' := (⟨"com/example/gridwright/gridwright/engine/LargeDraft", "next", "()I"⟩ : MethodName)) (y := (⟨"com/example/gridwright/gridwright/engine/LargeDraft", "next", "()I"⟩ : MethodName)) (C := "com/example/gridwright/gridwright/engine/LargeDraft") (hw _ (List.mem_of_getElem? (i := 115) rfl)) (hw _ (List.mem_of_getElem? (i := 116) rfl)) (notFace_of_selects (args := #[]) (mvT hZ (hw _ (List.mem_of_getElem? (i := 118) rfl)))) (hw _ (List.mem_of_getElem? (i := 118) rfl)) (hw _ (List.mem_of_getElem? (i := 117) rfl)) (hw _ (List.mem_of_getElem? (i := 3) rfl)) (hw _ (List.mem_of_getElem? (i := 119) rfl)) (by decide) (a := b1) (argsL := []) (rest := []) (rmNn0 l Z a0 hw [] b1 x2_2 x2_3 H ((H + 63) / 64) ((W + 63) / 64) 0 0 x128_0 w0 w0 h128 n0 Z128 F128q0 F128q1 F128q2 F128q3 F128q4 F128q5 F128q6 F128q7 F128q8 gn_b1 gn_x2_2 gn_x2_3 ne_b1_x2_2 ne_b1_x2_3 ne_x2_2_x2_3 (by omega) (by omega) (by omega) (fun _ _ _ => rfl) (fun _ _ _ => rfl)) e128 F128q0 pd_5 rfl (by rw [hml]; rfl) (W := 0) (by show 2 * 0 + _ ≤ _; exact Nat.le_of_eq rfl) (by decide) (by decide) (by decide) (by decide) (hb hby at_100) (Ls := #[.val (.int i0), .val (.int i1), .val (.int i2), .val (.int i3), .val (.int (Int32.ofNat W)), .val (.int (Int32.ofNat H)), .val (.int (Int32.ofNat (W + H))), .val (.int (Int32.ofNat A)), .val (.int (Int32.ofNat B)), .val (.ref b1), .val (.int (Int32.ofNat A)), .val (.int (-1 : Int32)), .unset, .unset, .unset, .unset])
        generalize e129 : T129.heap = h129 at q129
        obtain ⟨x129_0, rfl, N129q, K129q, F129q0, F129q1, F129q2, F129q3, F129q4, F129q5, F129q6, F129q7, F129q8⟩ := q129
        have N129 := Fr.app N128 N129q
        have Z129 : n0 ≤ h129.size := Nat.le_trans Z128 K129q.1
        refine Go.step (st129) ?_
        show Go _ _ _ _ _ _ _ T129 (mkF m 103 #[_, _, _, _, _, _, _, _, _, _, _, _, _, _, _, _] [(.int (-1 : Int32))])
        refine Go.step (fun tt kk => XS.istore X129.here hx rfl (hb hby at_103) rfl (l' := #[.val (.int i0), .val (.int i1), .val (.int i2), .val (.int i3), .val (.int (Int32.ofNat W)), .val (.int (Int32.ofNat H)), .val (.int (Int32.ofNat (W + H))), .val (.int (Int32.ofNat A)), .val (.int (Int32.ofNat B)), .val (.ref b1), .val (.int (Int32.ofNat A)), .val (.int (-1 : Int32)), .val (.int (-1 : Int32)), .unset, .unset, .unset]) rfl kk) ?_
        show Go _ _ _ _ _ _ _ T129 (mkF m 105 #[_, _, _, _, _, _, _, _, _, _, _, _, _, _, _, _] [])
        refine Go.step (fun tt kk => XS.iload X129.here hx rfl (hb hby at_105) rfl kk) ?_
        show Go _ _ _ _ _ _ _ T129 (mkF m 107 #[_, _, _, _, _, _, _, _, _, _, _, _, _, _, _, _] [(.int (Int32.ofNat A))])
        refine Go.step (fun tt kk => XS.iload X129.here hx rfl (hb hby at_107) rfl kk) ?_
        show Go _ _ _ _ _ _ _ T129 (mkF m 109 #[_, _, _, _, _, _, _, _, _, _, _, _, _, _, _, _] [(.int (Int32.ofNat B)), (.int (Int32.ofNat A))])
        obtain ⟨v130, T130, L130, X130, q130, st130⟩ := c_static X129 hx hZ hown (y := (⟨"java/lang/Math", "min", "(II)I"⟩ : MethodName)) (hw _ (List.mem_of_getElem? (i := 131) rfl)) (hw _ (List.mem_of_getElem? (i := 132) rfl)) (hw _ (List.mem_of_getElem? (i := 21) rfl)) (hw _ (List.mem_of_getElem? (i := 133) rfl)) (by decide) (argsL := [(.int (Int32.ofNat A)), (.int (Int32.ofNat B))]) (rest := []) (rmmn l Z a0 hw [] (Int32.ofNat A) (Int32.ofNat B) h129 n0 Z129) e129 pd_0 rfl (by rw [hml]; rfl) (W := 0) (by show 2 * 0 + _ ≤ _; exact Nat.le_of_eq rfl) (by decide) (by decide) (by decide) (by decide) (hb hby at_109) (Ls := #[.val (.int i0), .val (.int i1), .val (.int i2), .val (.int i3), .val (.int (Int32.ofNat W)), .val (.int (Int32.ofNat H)), .val (.int (Int32.ofNat (W + H))), .val (.int (Int32.ofNat A)), .val (.int (Int32.ofNat B)), .val (.ref b1), .val (.int (Int32.ofNat A)), .val (.int (-1 : Int32)), .val (.int (-1 : Int32)), .unset, .unset, .unset])
        obtain ⟨rfl, rfl, e130⟩ := q130
        have N130 := Fr.app N129 (Fr.nil n0)
        refine Go.step (st130) ?_
        show Go _ _ _ _ _ _ _ T130 (mkF m 112 #[_, _, _, _, _, _, _, _, _, _, _, _, _, _, _, _] [(.int (mn (Int32.ofNat A) (Int32.ofNat B)))])
        rw [own_min _ _ (by omega) (by omega)]
        show Go _ _ _ _ _ _ _ T130 (mkF m 112 #[.val (.int i0), .val (.int i1), .val (.int i2), .val (.int i3), .val (.int (Int32.ofNat W)), .val (.int (Int32.ofNat H)), .val (.int (Int32.ofNat (W + H))), .val (.int (Int32.ofNat A)), .val (.int (Int32.ofNat B)), .val (.ref b1), .val (.int (Int32.ofNat A)), .val (.int (-1 : Int32)), .val (.int (-1 : Int32)), .unset, .unset, .unset] [(.int (Int32.ofNat (min A B)))])
        refine Go.step (fun tt kk => XS.istore X130.here hx rfl (hb hby at_112) rfl (l' := #[.val (.int i0), .val (.int i1), .val (.int i2), .val (.int i3), .val (.int (Int32.ofNat W)), .val (.int (Int32.ofNat H)), .val (.int (Int32.ofNat (W + H))), .val (.int (Int32.ofNat A)), .val (.int (Int32.ofNat B)), .val (.ref b1), .val (.int (Int32.ofNat A)), .val (.int (-1 : Int32)), .val (.int (-1 : Int32)), .val (.int (Int32.ofNat (min A B))), .unset, .unset]) rfl kk) ?_
        show Go _ _ _ _ _ _ _ T130 (mkF m 114 #[_, _, _, _, _, _, _, _, _, _, _, _, _, _, _, _] [])
        refine Go.step (fun tt kk => XS.iload X130.here hx rfl (hb hby at_114) rfl kk) ?_
        show Go _ _ _ _ _ _ _ T130 (mkF m 116 #[_, _, _, _, _, _, _, _, _, _, _, _, _, _, _, _] [(.int (Int32.ofNat A))])
        refine Go.step (fun tt kk => XS.iload X130.here hx rfl (hb hby at_116) rfl kk) ?_
        show Go _ _ _ _ _ _ _ T130 (mkF m 118 #[_, _, _, _, _, _, _, _, _, _, _, _, _, _, _, _] [(.int (Int32.ofNat B)), (.int (Int32.ofNat A))])
        obtain ⟨v131, T131, L131, X131, q131, st131⟩ := c_static X130 hx hZ hown (y := (⟨"java/lang/Math", "max", "(II)I"⟩ : MethodName)) (hw _ (List.mem_of_getElem? (i := 134) rfl)) (hw _ (List.mem_of_getElem? (i := 20) rfl)) (hw _ (List.mem_of_getElem? (i := 21) rfl)) (hw _ (List.mem_of_getElem? (i := 22) rfl)) (by decide) (argsL := [(.int (Int32.ofNat A)), (.int (Int32.ofNat B))]) (rest := []) (rmmx l Z a0 hw [] (Int32.ofNat A) (Int32.ofNat B) h129 n0 Z129) e130 pd_0 rfl (by rw [hml]; rfl) (W := 0) (by show 2 * 0 + _ ≤ _; exact Nat.le_of_eq rfl) (by decide) (by decide) (by decide) (by decide) (hb hby at_118) (Ls := #[.val (.int i0), .val (.int i1), .val (.int i2), .val (.int i3), .val (.int (Int32.ofNat W)), .val (.int (Int32.ofNat H)), .val (.int (Int32.ofNat (W + H))), .val (.int (Int32.ofNat A)), .val (.int (Int32.ofNat B)), .val (.ref b1), .val (.int (Int32.ofNat A)), .val (.int (-1 : Int32)), .val (.int (-1 : Int32)), .val (.int (Int32.ofNat (min A B))), .unset, .unset])
        obtain ⟨rfl, rfl, e131⟩ := q131
        have N131 := Fr.app N130 (Fr.nil n0)
        refine Go.step (st131) ?_
        show Go _ _ _ _ _ _ _ T131 (mkF m 121 #[_, _, _, _, _, _, _, _, _, _, _, _, _, _, _, _] [(.int (mx (Int32.ofNat A) (Int32.ofNat B)))])
        rw [own_max _ _ (by omega) (by omega)]
        show Go _ _ _ _ _ _ _ T131 (mkF m 121 #[.val (.int i0), .val (.int i1), .val (.int i2), .val (.int i3), .val (.int (Int32.ofNat W)), .val (.int (Int32.ofNat H)), .val (.int (Int32.ofNat (W + H))), .val (.int (Int32.ofNat A)), .val (.int (Int32.ofNat B)), .val (.ref b1), .val (.int (Int32.ofNat A)), .val (.int (-1 : Int32)), .val (.int (-1 : Int32)), .val (.int (Int32.ofNat (min A B))), .unset, .unset] [(.int (Int32.ofNat (max A B)))])
        refine Go.step (fun tt kk => XS.istore X131.here hx rfl (hb hby at_121) rfl (l' := #[.val (.int i0), .val (.int i1), .val (.int i2), .val (.int i3), .val (.int (Int32.ofNat W)), .val (.int (Int32.ofNat H)), .val (.int (Int32.ofNat (W + H))), .val (.int (Int32.ofNat A)), .val (.int (Int32.ofNat B)), .val (.ref b1), .val (.int (Int32.ofNat A)), .val (.int (-1 : Int32)), .val (.int (-1 : Int32)), .val (.int (Int32.ofNat (min A B))), .val (.int (Int32.ofNat (max A B))), .unset]) rfl kk) ?_
        show Go _ _ _ _ _ _ _ T131 (mkF m 123 #[_, _, _, _, _, _, _, _, _, _, _, _, _, _, _, _] [])
        refine Go.step (fun tt kk => XS.iload X131.here hx rfl (hb hby at_123) rfl kk) ?_
        show Go _ _ _ _ _ _ _ T131 (mkF m 125 #[_, _, _, _, _, _, _, _, _, _, _, _, _, _, _, _] [(.int (Int32.ofNat (min A B)))])
        refine Go.step (fun tt kk => XS.iload X131.here hx rfl (hb hby at_125) rfl kk) ?_
        show Go _ _ _ _ _ _ _ T131 (mkF m 127 #[_, _, _, _, _, _, _, _, _, _, _, _, _, _, _, _] [(.int (Int32.ofNat (max A B))), (.int (Int32.ofNat (min A B)))])
        refine Go.step (fun tt kk => XS.icmpNo X131.here hx rfl (hb hby at_127) rfl (teq ((own_eq _ _ (by omega) (by omega)).mpr (by omega))).2 kk) ?_
        show Go _ _ _ _ _ _ _ T131 (mkF m 130 #[_, _, _, _, _, _, _, _, _, _, _, _, _, _, _, _] [])
        refine Go.step (fun tt kk => XS.iconst X131.here hx rfl (hb hby at_130) kk) ?_
        show Go _ _ _ _ _ _ _ T131 (mkF m 131 #[_, _, _, _, _, _, _, _, _, _, _, _, _, _, _, _] [(.int (-1 : Int32))])
        refine Go.step (fun tt kk => XS.goto X131.here hx rfl (pc0 := 131) (pc' := 136) rfl (hb hby at_131) (by decide) (by decide) kk) ?_
        show Go _ _ _ _ _ _ _ T131 (mkF m 136 #[_, _, _, _, _, _, _, _, _, _, _, _, _, _, _, _] [(.int (-1 : Int32))])
        refine Go.step (fun tt kk => XS.istore X131.here hx rfl (hb hby at_136) rfl (l' := #[.val (.int i0), .val (.int i1), .val (.int i2), .val (.int i3), .val (.int (Int32.ofNat W)), .val (.int (Int32.ofNat H)), .val (.int (Int32.ofNat (W + H))), .val (.int (Int32.ofNat A)), .val (.int (Int32.ofNat B)), .val (.ref b1), .val (.int (Int32.ofNat A)), .val (.int (-1 : Int32)), .val (.int (-1 : Int32)), .val (.int (Int32.ofNat (min A B))), .val (.int (Int32.ofNat (max A B))), .val (.int (-1 : Int32))]) rfl kk) ?_
        show Go _ _ _ _ _ _ _ T131 (mkF m 138 #[_, _, _, _, _, _, _, _, _, _, _, _, _, _, _, _] [])
        refine Go.step (fun tt kk => XS.iload X131.here hx rfl (hb hby at_138) rfl kk) ?_
        show Go _ _ _ _ _ _ _ T131 (mkF m 140 #[_, _, _, _, _, _, _, _, _, _, _, _, _, _, _, _] [(.int (Int32.ofNat A))])
        refine Go.step (fun tt kk => XS.iload X131.here hx rfl (hb hby at_140) rfl kk) ?_
        show Go _ _ _ _ _ _ _ T131 (mkF m 142 #[_, _, _, _, _, _, _, _, _, _, _, _, _, _, _, _] [(.int (Int32.ofNat (min A B))), (.int (Int32.ofNat A))])
        refine Go.step (fun tt kk => XS.icmpNo X131.here hx rfl (hb hby at_142) rfl (teq ((own_eq _ _ (by omega) (by omega)).mpr (by omega))).2 kk) ?_
        show Go _ _ _ _ _ _ _ T131 (mkF m 145 #[_, _, _, _, _, _, _, _, _, _, _, _, _, _, _, _] [])
        refine Go.step (fun tt kk => XS.iload X131.here hx rfl (hb hby at_145) rfl kk) ?_
        show Go _ _ _ _ _ _ _ T131 (mkF m 147 #[_, _, _, _, _, _, _, _, _, _, _, _, _, _, _, _] [(.int (-1 : Int32))])
        refine Go.step (fun tt kk => XS.iload X131.here hx rfl (hb hby at_147) rfl kk) ?_
        show Go _ _ _ _ _ _ _ T131 (mkF m 149 #[_, _, _, _, _, _, _, _, _, _, _, _, _, _, _, _] [(.int (-1 : Int32)), (.int (-1 : Int32))])
        refine Go.step (fun tt kk => XS.icmpNo X131.here hx rfl (hb hby at_149) rfl (teq rfl).2 kk) ?_
        show Go _ _ _ _ _ _ _ T131 (mkF m 152 #[_, _, _, _, _, _, _, _, _, _, _, _, _, _, _, _] [])
        refine Go.step (fun tt kk => XS.iload X131.here hx rfl (hb hby at_152) rfl kk) ?_
        show Go _ _ _ _ _ _ _ T131 (mkF m 154 #[_, _, _, _, _, _, _, _, _, _, _, _, _, _, _, _] [(.int (-1 : Int32))])
        refine Go.step (fun tt kk => XS.iconst X131.here hx rfl (hb hby at_154) kk) ?_
        show Go _ _ _ _ _ _ _ T131 (mkF m 155 #[_, _, _, _, _, _, _, _, _, _, _, _, _, _, _, _] [(.int (-1 : Int32)), (.int (-1 : Int32))])
        refine Go.step (fun tt kk => XS.icmpNo X131.here hx rfl (hb hby at_155) rfl (teq rfl).2 kk) ?_
        show Go _ _ _ _ _ _ _ T131 (mkF m 158 #[_, _, _, _, _, _, _, _, _, _, _, _, _, _, _, _] [])
        refine Go.step (fun tt kk => XS.iconst X131.here hx rfl (hb hby at_158) kk) ?_
        show Go _ _ _ _ _ _ _ T131 (mkF m 159 #[_, _, _, _, _, _, _, _, _, _, _, _, _, _, _, _] [(.int (1 : Int32))])
        refine Go.step (fun tt kk => XS.goto X131.here hx rfl (pc0 := 159) (pc' := 163) rfl (hb hby at_159) (by decide) (by decide) kk) ?_
        show Go _ _ _ _ _ _ _ T131 (mkF m 163 #[_, _, _, _, _, _, _, _, _, _, _, _, _, _, _, _] [(.int (1 : Int32))])
        refine go_retN X131 hx (t := .boolean) hret (by simp) hlk (hb hby at_163) (w := (1 : Int32)) rfl ?_ (by decide) (by decide)
        try rw [e131]
        exact ⟨rfl, N131⟩
      · show Go _ _ _ _ _ _ _ T5 (mkF m 70 #[.val (.int i0), .val (.int i1), .val (.int i2), .val (.int i3), .val (.int (Int32.ofNat W)), .val (.int (Int32.ofNat H)), .val (.int (Int32.ofNat (W + H))), .val (.int (Int32.ofNat A)), .val (.int (Int32.ofNat B)), .val (.ref b1), .unset, .unset, .unset, .unset, .unset, .unset] [])
        refine Go.step (fun tt kk => XS.aload X5.here hx rfl (hb hby at_70) rfl rfl kk) ?_
        show Go _ _ _ _ _ _ _ T5 (mkF m 72 #[_, _, _, _, _, _, _, _, _, _, _, _, _, _, _, _] [(.ref b1)])
        refine Go.step (fun tt kk => XS.iload X5.here hx rfl (hb hby at_72) rfl kk) ?_
        show Go _ _ _ _ _ _ _ T5 (mkF m 74 #[_, _, _, _, _, _, _, _, _, _, _, _, _, _, _, _] [(.int (Int32.ofNat A)), (.ref b1)])
        obtain ⟨v132, T132, L132, X132, q132, st132⟩ := c_virt X5 hx hZ hown (y' := (⟨"com/example/gridwright/gridwright/engine/LargeDraft", "await", "(I)V"⟩ : MethodName)) (y := (⟨"com/example/gridwright/gridwright/engine/LargeDraft", "await", "(I)V"⟩ : MethodName)) (C := "com/example/gridwright/gridwright/engine/LargeDraft") (hw _ (List.mem_of_getElem? (i := 110) rfl)) (hw _ (List.mem_of_getElem? (i := 111) rfl)) (notFace_of_selects (args := #[]) (mvT hZ (hw _ (List.mem_of_getElem? (i := 113) rfl)))) (hw _ (List.mem_of_getElem? (i := 113) rfl)) (hw _ (List.mem_of_getElem? (i := 112) rfl)) (hw _ (List.mem_of_getElem? (i := 3) rfl)) (hw _ (List.mem_of_getElem? (i := 114) rfl)) (by decide) (a := b1) (argsL := [(.int (Int32.ofNat A))]) (rest := []) (rmAc l Z a0 hw [] b1 x2_3 H A ((W + 63) / 64) w0 h5 n0 Z5 F5q0 F5q1 F5q4 F5q8 gn_b1 gn_x2_3 ne_b1_x2_3 (by omega) (by omega) hA0 (by omega)) e5 F5q0 pd_8 rfl (by rw [hml]; rfl) (W := 0) (by show 2 * 0 + _ ≤ _; exact Nat.le_of_eq rfl) (by decide) (by decide) (by decide) (by decide) (hb hby at_74) (Ls := #[.val (.int i0), .val (.int i1), .val (.int i2), .val (.int i3), .val (.int (Int32.ofNat W)), .val (.int (Int32.ofNat H)), .val (.int (Int32.ofNat (W + H))), .val (.int (Int32.ofNat A)), .val (.int (Int32.ofNat B)), .val (.ref b1), .unset, .unset, .unset, .unset, .unset, .unset])
        generalize e132 : T132.heap = h132 at q132
        obtain ⟨rfl, N132q, K132q, F132q0⟩ := q132
        have N132 := Fr.app N5 N132q
        have Z132 : n0 ≤ h132.size := Nat.le_trans Z5 K132q.1
        refine Go.step (st132) ?_
        show Go _ _ _ _ _ _ _ T132 (mkF m 77 #[_, _, _, _, _, _, _, _, _, _, _, _, _, _, _, _] [])
        have V133 : AV Z h132 x2_3 .long ((W + 63) / 64) (lv (wd1 (A - H))) := (w_or1 (A - H)) ▸ F132q0
        refine Go.step (fun tt kk => XS.aload X132.here hx rfl (hb hby at_77) rfl rfl kk) ?_
        show Go _ _ _ _ _ _ _ T132 (mkF m 79 #[_, _, _, _, _, _, _, _, _, _, _, _, _, _, _, _] [(.ref b1)])
        refine Go.step (fun tt kk => XS.iload X132.here hx rfl (hb hby at_79) rfl kk) ?_
        show Go _ _ _ _ _ _ _ T132 (mkF m 81 #[_, _, _, _, _, _, _, _, _, _, _, _, _, _, _, _] [(.int (Int32.ofNat B)), (.ref b1)])
        have f135 := (F5q0.keep K132q)
        have f136 := (F5q1.keep K132q (ninS ne_b1_x2_3 nin0))
        have f137 := (F5q4.keep K132q (ninS ne_b1_x2_3 nin0))
        obtain ⟨v134, T134, L134, X134, q134, st134⟩ := c_virt X132 hx hZ hown (y' := (⟨"com/example/gridwright/gridwright/engine/LargeDraft", "await", "(I)V"⟩ : MethodName)) (y := (⟨"com/example/gridwright/gridwright/engine/LargeDraft", "await", "(I)V"⟩ : MethodName)) (C := "com/example/gridwright/gridwright/engine/LargeDraft") (hw _ (List.mem_of_getElem? (i := 110) rfl)) (hw _ (List.mem_of_getElem? (i := 111) rfl)) (notFace_of_selects (args := #[]) (mvT hZ (hw _ (List.mem_of_getElem? (i := 113) rfl)))) (hw _ (List.mem_of_getElem? (i := 113) rfl)) (hw _ (List.mem_of_getElem? (i := 112) rfl)) (hw _ (List.mem_of_getElem? (i := 3) rfl)) (hw _ (List.mem_of_getElem? (i := 114) rfl)) (by decide) (a := b1) (argsL := [(.int (Int32.ofNat B))]) (rest := []) (rmAc l Z a0 hw [] b1 x2_3 H B ((W + 63) / 64) (wd1 (A - H)) h132 n0 Z132 f135 f136 f137 V133 gn_b1 gn_x2_3 ne_b1_x2_3 (by omega) (by omega) hB0 (by omega)) e132 f135 pd_8 rfl (by rw [hml]; rfl) (W := 0) (by show 2 * 0 + _ ≤ _; exact Nat.le_of_eq rfl) (by decide) (by decide) (by decide) (by decide) (hb hby at_81) (Ls := #[.val (.int i0), .val (.int i1), .val (.int i2), .val (.int i3), .val (.int (Int32.ofNat W)), .val (.int (Int32.ofNat H)), .val (.int (Int32.ofNat (W + H))), .val (.int (Int32.ofNat A)), .val (.int (Int32.ofNat B)), .val (.ref b1), .unset, .unset, .unset, .unset, .unset, .unset])
        generalize e134 : T134.heap = h134 at q134
        obtain ⟨rfl, N134q, K134q, F134q0⟩ := q134
        have N134 := Fr.app N132 N134q
        have Z134 : n0 ≤ h134.size := Nat.le_trans Z132 K134q.1
        refine Go.step (st134) ?_
        show Go _ _ _ _ _ _ _ T134 (mkF m 84 #[_, _, _, _, _, _, _, _, _, _, _, _, _, _, _, _] [])
        have V138 : AV Z h134 x2_3 .long ((W + 63) / 64) (lv (wd2 (min (A - H) (B - H)) (max (A - H) (B - H)))) := (w_or2 (A - H) (B - H)) ▸ F134q0
        obtain ⟨s1, s2, s3, s4⟩ := w_two (min (A - H) (B - H)) (max (A - H) (B - H)) (by omega) (by omega)
        obtain ⟨u1, u2, u3, u4⟩ := w_one (max (A - H) (B - H)) (by omega)
        refine Go.step (fun tt kk => XS.aload X134.here hx rfl (hb hby at_84) rfl rfl kk) ?_
        show Go _ _ _ _ _ _ _ T134 (mkF m 86 #[_, _, _, _, _, _, _, _, _, _, _, _, _, _, _, _] [(.ref b1)])
        have f140 := (f135.keep K134q)
        have f141 := (f136.keep K134q (ninS ne_b1_x2_3 nin0))
        have f142 := ((F5q2.keep K132q (ninS ne_b1_x2_3 nin0)).keep K134q (ninS ne_b1_x2_3 nin0))
        have f143 := ((F5q3.keep K132q (ninS ne_b1_x2_3 nin0)).keep K134q (ninS ne_b1_x2_3 nin0))
        have f144 := (f137.keep K134q (ninS ne_b1_x2_3 nin0))
        have f145 := ((F5q5.keep K132q (ninS ne_b1_x2_3 nin0)).keep K134q (ninS ne_b1_x2_3 nin0))
        have f146 := ((F5q6.keep K132q (ninS ne_b1_x2_3 nin0)).keep K134q (ninS ne_b1_x2_3 nin0))
        have f147 := ((F5q7.keep K132q (ninS ne_x2_2_x2_3 nin0)).keep K134q (ninS ne_x2_2_x2_3 nin0))
        obtain ⟨v139, T139, L139, X139, q139, st139⟩ := c_virt X134 hx hZ hown (y' := (⟨"com/example/gridwright/gridwright/engine/LargeDraft", "next", "()I"⟩ : MethodName)) (y := (⟨"com/example/gridwright/gridwright/engine/LargeDraft", "next", "()I"⟩ : MethodName)) (C := "com/example/gridwright/gridwright/engine/LargeDraft") (hw _ (List.mem_of_getElem? (i := 115) rfl)) (hw _ (List.mem_of_getElem? (i := 116) rfl)) (notFace_of_selects (args := #[]) (mvT hZ (hw _ (List.mem_of_getElem? (i := 118) rfl)))) (hw _ (List.mem_of_getElem? (i := 118) rfl)) (hw _ (List.mem_of_getElem? (i := 117) rfl)) (hw _ (List.mem_of_getElem? (i := 3) rfl)) (hw _ (List.mem_of_getElem? (i := 119) rfl)) (by decide) (a := b1) (argsL := []) (rest := []) (rmNs1 l Z a0 hw [] b1 x2_2 x2_3 H ((H + 63) / 64) ((W + 63) / 64) 0 ((min (A - H) (B - H)) / 64) (0 : Int64) w0 (wd2 (min (A - H) (B - H)) (max (A - H) (B - H))) h134 n0 Z134 f140 f141 f142 f143 f144 f145 f146 f147 V138 gn_b1 gn_x2_2 gn_x2_3 ne_b1_x2_2 ne_b1_x2_3 ne_x2_2_x2_3 (by omega) (by omega) (by omega) (by omega) (fun _ _ _ => rfl) (fun j _ hj => s1 j hj) s2) e134 f140 pd_5 rfl (by rw [hml]; rfl) (W := 0) (by show 2 * 0 + _ ≤ _; exact Nat.le_of_eq rfl) (by decide) (by decide) (by decide) (by decide) (hb hby at_86) (Ls := #[.val (.int i0), .val (.int i1), .val (.int i2), .val (.int i3), .val (.int (Int32.ofNat W)), .val (.int (Int32.ofNat H)), .val (.int (Int32.ofNat (W + H))), .val (.int (Int32.ofNat A)), .val (.int (Int32.ofNat B)), .val (.ref b1), .unset, .unset, .unset, .unset, .unset, .unset])
        generalize e139 : T139.heap = h139 at q139
        obtain ⟨x139_0, rfl, N139q, K139q, F139q0, F139q1, F139q2, F139q3, F139q4, F139q5, F139q6, F139q7, F139q8⟩ := q139
        have N139 := Fr.app N134 N139q
        have Z139 : n0 ≤ h139.size := Nat.le_trans Z134 K139q.1
        refine Go.step (st139) ?_
        show Go _ _ _ _ _ _ _ T139 (mkF m 89 #[_, _, _, _, _, _, _, _, _, _, _, _, _, _, _, _] [(.int (Int32.ofNat H + ((64 : Int32) * Int32.ofNat ((min (A - H) (B - H)) / 64) + ntz ((wd2 (min (A - H) (B - H)) (max (A - H) (B - H))) ((min (A - H) (B - H)) / 64)))))])
        rw [s3, ← Int32.ofNat_add, show H + (min (A - H) (B - H)) = (min A B) by omega]
        show Go _ _ _ _ _ _ _ T139 (mkF m 89 #[.val (.int i0), .val (.int i1), .val (.int i2), .val (.int i3), .val (.int (Int32.ofNat W)), .val (.int (Int32.ofNat H)), .val (.int (Int32.ofNat (W + H))), .val (.int (Int32.ofNat A)), .val (.int (Int32.ofNat B)), .val (.ref b1), .unset, .unset, .unset, .unset, .unset, .unset] [(.int (Int32.ofNat (min A B)))])
        refine Go.step (fun tt kk => XS.istore X139.here hx rfl (hb hby at_89) rfl (l' := #[.val (.int i0), .val (.int i1), .val (.int i2), .val (.int i3), .val (.int (Int32.ofNat W)), .val (.int (Int32.ofNat H)), .val (.int (Int32.ofNat (W + H))), .val (.int (Int32.ofNat A)), .val (.int (Int32.ofNat B)), .val (.ref b1), .val (.int (Int32.ofNat (min A B))), .unset, .unset, .unset, .unset, .unset]) rfl kk) ?_
        show Go _ _ _ _ _ _ _ T139 (mkF m 91 #[_, _, _, _, _, _, _, _, _, _, _, _, _, _, _, _] [])
        have V148 : AV Z h139 x2_3 .long ((W + 63) / 64) (lv (wd1 (max (A - H) (B - H)))) := s4 ▸ F139q8
        refine Go.step (fun tt kk => XS.aload X139.here hx rfl (hb hby at_91) rfl rfl kk) ?_
        show Go _ _ _ _ _ _ _ T139 (mkF m 93 #[_, _, _, _, _, _, _, _, _, _, _, _, _, _, _, _] [(.ref b1)])
        obtain ⟨v149, T149, L149, X149, q149, st149⟩ := c_virt X139 hx hZ hown (y' := (⟨"com/example/gridwright/gridwright/engine/LargeDraft", "next", "()I"⟩ : MethodName)) (y := (⟨"com/example/gridwright/gridwright/engine/LargeDraft", "next", "()I"⟩ : MethodName)) (C := "com/example/gridwright/gridwright/engine/LargeDraft") (hw _ (List.mem_of_getElem? (i := 115) rfl)) (hw _ (List.mem_of_getElem? (i := 116) rfl)) (notFace_of_selects (args := #[]) (mvT hZ (hw _ (List.mem_of_getElem? (i := 118) rfl)))) (hw _ (List.mem_of_getElem? (i := 118) rfl)) (hw _ (List.mem_of_getElem? (i := 117) rfl)) (hw _ (List.mem_of_getElem? (i := 3) rfl)) (hw _ (List.mem_of_getElem? (i := 119) rfl)) (by decide) (a := b1) (argsL := []) (rest := []) (rmNf0 l Z a0 hw [] b1 x2_2 x2_3 H ((H + 63) / 64) ((W + 63) / 64) ((min (A - H) (B - H)) / 64) ((max (A - H) (B - H)) / 64) x139_0 w0 (wd1 (max (A - H) (B - H))) h139 n0 Z139 F139q0 F139q1 F139q2 F139q3 F139q4 F139q5 F139q6 F139q7 V148 gn_b1 gn_x2_2 gn_x2_3 ne_b1_x2_2 ne_b1_x2_3 ne_x2_2_x2_3 (by omega) (by omega) (by omega) (by omega) (fun j _ hj => u1 j (by omega)) u2) e139 F139q0 pd_5 rfl (by rw [hml]; rfl) (W := 0) (by show 2 * 0 + _ ≤ _; exact Nat.le_of_eq rfl) (by decide) (by decide) (by decide) (by decide) (hb hby at_93) (Ls := #[.val (.int i0), .val (.int i1), .val (.int i2), .val (.int i3), .val (.int (Int32.ofNat W)), .val (.int (Int32.ofNat H)), .val (.int (Int32.ofNat (W + H))), .val (.int (Int32.ofNat A)), .val (.int (Int32.ofNat B)), .val (.ref b1), .val (.int (Int32.ofNat (min A B))), .unset, .unset, .unset, .unset, .unset])
        generalize e149 : T149.heap = h149 at q149
        obtain ⟨x149_0, rfl, N149q, K149q, F149q0, F149q1, F149q2, F149q3, F149q4, F149q5, F149q6, F149q7, F149q8⟩ := q149
        have N149 := Fr.app N139 N149q
        have Z149 : n0 ≤ h149.size := Nat.le_trans Z139 K149q.1
        refine Go.step (st149) ?_
        show Go _ _ _ _ _ _ _ T149 (mkF m 96 #[_, _, _, _, _, _, _, _, _, _, _, _, _, _, _, _] [(.int (Int32.ofNat H + ((64 : Int32) * Int32.ofNat ((max (A - H) (B - H)) / 64) + ntz ((wd1 (max (A - H) (B - H))) ((max (A - H) (B - H)) / 64)))))])
        rw [u3, ← Int32.ofNat_add, show H + (max (A - H) (B - H)) = (max A B) by omega]
        show Go _ _ _ _ _ _ _ T149 (mkF m 96 #[.val (.int i0), .val (.int i1), .val (.int i2), .val (.int i3), .val (.int (Int32.ofNat W)), .val (.int (Int32.ofNat H)), .val (.int (Int32.ofNat (W + H))), .val (.int (Int32.ofNat A)), .val (.int (Int32.ofNat B)), .val (.ref b1), .val (.int (Int32.ofNat (min A B))), .unset, .unset, .unset, .unset, .unset] [(.int (Int32.ofNat (max A B)))])
        refine Go.step (fun tt kk => XS.istore X149.here hx rfl (hb hby at_96) rfl (l' := #[.val (.int i0), .val (.int i1), .val (.int i2), .val (.int i3), .val (.int (Int32.ofNat W)), .val (.int (Int32.ofNat H)), .val (.int (Int32.ofNat (W + H))), .val (.int (Int32.ofNat A)), .val (.int (Int32.ofNat B)), .val (.ref b1), .val (.int (Int32.ofNat (min A B))), .val (.int (Int32.ofNat (max A B))), .unset, .unset, .unset, .unset]) rfl kk) ?_
        show Go _ _ _ _ _ _ _ T149 (mkF m 98 #[_, _, _, _, _, _, _, _, _, _, _, _, _, _, _, _] [])
        have V150 : AV Z h149 x2_3 .long ((W + 63) / 64) (lv w0) := u4 ▸ F149q8
        refine Go.step (fun tt kk => XS.aload X149.here hx rfl (hb hby at_98) rfl rfl kk) ?_
        show Go _ _ _ _ _ _ _ T149 (mkF m 100 #[_, _, _, _, _, _, _, _, _, _, _, _, _, _, _, _] [(.ref b1)])
        obtain ⟨v151, T151, L151, X151, q151, st151⟩ := c_virt X149 hx hZ hown (y' := (⟨"com/example/gridwright/gridwright/engine/LargeDraft", "next", "()I"⟩ : MethodName)) (y := (⟨"com/example/gridwright/gridwright/engine/LargeDraft", "next", "()I"⟩ : MethodName)) (C := "com/example/gridwright/gridwright/engine/LargeDraft") (hw _ (List.mem_of_getElem? (i := 115) rfl)) (hw _ (List.mem_of_getElem? (i := 116) rfl)) (notFace_of_selects (args := #[]) (mvT hZ (hw _ (List.mem_of_getElem? (i := 118) rfl)))) (hw _ (List.mem_of_getElem? (i := 118) rfl)) (hw _ (List.mem_of_getElem? (i := 117) rfl)) (hw _ (List.mem_of_getElem? (i := 3) rfl)) (hw _ (List.mem_of_getElem? (i := 119) rfl)) (by decide) (a := b1) (argsL := []) (rest := []) (rmNn0 l Z a0 hw [] b1 x2_2 x2_3 H ((H + 63) / 64) ((W + 63) / 64) ((max (A - H) (B - H)) / 64) 0 x149_0 w0 w0 h149 n0 Z149 F149q0 F149q1 F149q2 F149q3 F149q4 F149q5 F149q6 F149q7 V150 gn_b1 gn_x2_2 gn_x2_3 ne_b1_x2_2 ne_b1_x2_3 ne_x2_2_x2_3 (by omega) (by omega) (by omega) (fun _ _ _ => rfl) (fun _ _ _ => rfl)) e149 F149q0 pd_5 rfl (by rw [hml]; rfl) (W := 0) (by show 2 * 0 + _ ≤ _; exact Nat.le_of_eq rfl) (by decide) (by decide) (by decide) (by decide) (hb hby at_100) (Ls := #[.val (.int i0), .val (.int i1), .val (.int i2), .val (.int i3), .val (.int (Int32.ofNat W)), .val (.int (Int32.ofNat H)), .val (.int (Int32.ofNat (W + H))), .val (.int (Int32.ofNat A)), .val (.int (Int32.ofNat B)), .val (.ref b1), .val (.int (Int32.ofNat (min A B))), .val (.int (Int32.ofNat (max A B))), .unset, .unset, .unset, .unset])
        generalize e151 : T151.heap = h151 at q151
        obtain ⟨x151_0, rfl, N151q, K151q, F151q0, F151q1, F151q2, F151q3, F151q4, F151q5, F151q6, F151q7, F151q8⟩ := q151
        have N151 := Fr.app N149 N151q
        have Z151 : n0 ≤ h151.size := Nat.le_trans Z149 K151q.1
        refine Go.step (st151) ?_
        show Go _ _ _ _ _ _ _ T151 (mkF m 103 #[_, _, _, _, _, _, _, _, _, _, _, _, _, _, _, _] [(.int (-1 : Int32))])
        refine Go.step (fun tt kk => XS.istore X151.here hx rfl (hb hby at_103) rfl (l' := #[.val (.int i0), .val (.int i1), .val (.int i2), .val (.int i3), .val (.int (Int32.ofNat W)), .val (.int (Int32.ofNat H)), .val (.int (Int32.ofNat (W + H))), .val (.int (Int32.ofNat A)), .val (.int (Int32.ofNat B)), .val (.ref b1), .val (.int (Int32.ofNat (min A B))), .val (.int (Int32.ofNat (max A B))), .val (.int (-1 : Int32)), .unset, .unset, .unset]) rfl kk) ?_
        show Go _ _ _ _ _ _ _ T151 (mkF m 105 #[_, _, _, _, _, _, _, _, _, _, _, _, _, _, _, _] [])
        refine Go.step (fun tt kk => XS.iload X151.here hx rfl (hb hby at_105) rfl kk) ?_
        show Go _ _ _ _ _ _ _ T151 (mkF m 107 #[_, _, _, _, _, _, _, _, _, _, _, _, _, _, _, _] [(.int (Int32.ofNat A))])
        refine Go.step (fun tt kk => XS.iload X151.here hx rfl (hb hby at_107) rfl kk) ?_
        show Go _ _ _ _ _ _ _ T151 (mkF m 109 #[_, _, _, _, _, _, _, _, _, _, _, _, _, _, _, _] [(.int (Int32.ofNat B)), (.int (Int32.ofNat A))])
        obtain ⟨v152, T152, L152, X152, q152, st152⟩ := c_static X151 hx hZ hown (y := (⟨"java/lang/Math", "min", "(II)I"⟩ : MethodName)) (hw _ (List.mem_of_getElem? (i := 131) rfl)) (hw _ (List.mem_of_getElem? (i := 132) rfl)) (hw _ (List.mem_of_getElem? (i := 21) rfl)) (hw _ (List.mem_of_getElem? (i := 133) rfl)) (by decide) (argsL := [(.int (Int32.ofNat A)), (.int (Int32.ofNat B))]) (rest := []) (rmmn l Z a0 hw [] (Int32.ofNat A) (Int32.ofNat B) h151 n0 Z151) e151 pd_0 rfl (by rw [hml]; rfl) (W := 0) (by show 2 * 0 + _ ≤ _; exact Nat.le_of_eq rfl) (by decide) (by decide) (by decide) (by decide) (hb hby at_109) (Ls := #[.val (.int i0), .val (.int i1), .val (.int i2), .val (.int i3), .val (.int (Int32.ofNat W)), .val (.int (Int32.ofNat H)), .val (.int (Int32.ofNat (W + H))), .val (.int (Int32.ofNat A)), .val (.int (Int32.ofNat B)), .val (.ref b1), .val (.int (Int32.ofNat (min A B))), .val (.int (Int32.ofNat (max A B))), .val (.int (-1 : Int32)), .unset, .unset, .unset])
        obtain ⟨rfl, rfl, e152⟩ := q152
        have N152 := Fr.app N151 (Fr.nil n0)
        refine Go.step (st152) ?_
        show Go _ _ _ _ _ _ _ T152 (mkF m 112 #[_, _, _, _, _, _, _, _, _, _, _, _, _, _, _, _] [(.int (mn (Int32.ofNat A) (Int32.ofNat B)))])
        rw [own_min _ _ (by omega) (by omega)]
        show Go _ _ _ _ _ _ _ T152 (mkF m 112 #[.val (.int i0), .val (.int i1), .val (.int i2), .val (.int i3), .val (.int (Int32.ofNat W)), .val (.int (Int32.ofNat H)), .val (.int (Int32.ofNat (W + H))), .val (.int (Int32.ofNat A)), .val (.int (Int32.ofNat B)), .val (.ref b1), .val (.int (Int32.ofNat (min A B))), .val (.int (Int32.ofNat (max A B))), .val (.int (-1 : Int32)), .unset, .unset, .unset] [(.int (Int32.ofNat (min A B)))])
        refine Go.step (fun tt kk => XS.istore X152.here hx rfl (hb hby at_112) rfl (l' := #[.val (.int i0), .val (.int i1), .val (.int i2), .val (.int i3), .val (.int (Int32.ofNat W)), .val (.int (Int32.ofNat H)), .val (.int (Int32.ofNat (W + H))), .val (.int (Int32.ofNat A)), .val (.int (Int32.ofNat B)), .val (.ref b1), .val (.int (Int32.ofNat (min A B))), .val (.int (Int32.ofNat (max A B))), .val (.int (-1 : Int32)), .val (.int (Int32.ofNat (min A B))), .unset, .unset]) rfl kk) ?_
        show Go _ _ _ _ _ _ _ T152 (mkF m 114 #[_, _, _, _, _, _, _, _, _, _, _, _, _, _, _, _] [])
        refine Go.step (fun tt kk => XS.iload X152.here hx rfl (hb hby at_114) rfl kk) ?_
        show Go _ _ _ _ _ _ _ T152 (mkF m 116 #[_, _, _, _, _, _, _, _, _, _, _, _, _, _, _, _] [(.int (Int32.ofNat A))])
        refine Go.step (fun tt kk => XS.iload X152.here hx rfl (hb hby at_116) rfl kk) ?_
        show Go _ _ _ _ _ _ _ T152 (mkF m 118 #[_, _, _, _, _, _, _, _, _, _, _, _, _, _, _, _] [(.int (Int32.ofNat B)), (.int (Int32.ofNat A))])
        obtain ⟨v153, T153, L153, X153, q153, st153⟩ := c_static X152 hx hZ hown (y := (⟨"java/lang/Math", "max", "(II)I"⟩ : MethodName)) (hw _ (List.mem_of_getElem? (i := 134) rfl)) (hw _ (List.mem_of_getElem? (i := 20) rfl)) (hw _ (List.mem_of_getElem? (i := 21) rfl)) (hw _ (List.mem_of_getElem? (i := 22) rfl)) (by decide) (argsL := [(.int (Int32.ofNat A)), (.int (Int32.ofNat B))]) (rest := []) (rmmx l Z a0 hw [] (Int32.ofNat A) (Int32.ofNat B) h151 n0 Z151) e152 pd_0 rfl (by rw [hml]; rfl) (W := 0) (by show 2 * 0 + _ ≤ _; exact Nat.le_of_eq rfl) (by decide) (by decide) (by decide) (by decide) (hb hby at_118) (Ls := #[.val (.int i0), .val (.int i1), .val (.int i2), .val (.int i3), .val (.int (Int32.ofNat W)), .val (.int (Int32.ofNat H)), .val (.int (Int32.ofNat (W + H))), .val (.int (Int32.ofNat A)), .val (.int (Int32.ofNat B)), .val (.ref b1), .val (.int (Int32.ofNat (min A B))), .val (.int (Int32.ofNat (max A B))), .val (.int (-1 : Int32)), .val (.int (Int32.ofNat (min A B))), .unset, .unset])
        obtain ⟨rfl, rfl, e153⟩ := q153
        have N153 := Fr.app N152 (Fr.nil n0)
        refine Go.step (st153) ?_
        show Go _ _ _ _ _ _ _ T153 (mkF m 121 #[_, _, _, _, _, _, _, _, _, _, _, _, _, _, _, _] [(.int (mx (Int32.ofNat A) (Int32.ofNat B)))])
        rw [own_max _ _ (by omega) (by omega)]
        show Go _ _ _ _ _ _ _ T153 (mkF m 121 #[.val (.int i0), .val (.int i1), .val (.int i2), .val (.int i3), .val (.int (Int32.ofNat W)), .val (.int (Int32.ofNat H)), .val (.int (Int32.ofNat (W + H))), .val (.int (Int32.ofNat A)), .val (.int (Int32.ofNat B)), .val (.ref b1), .val (.int (Int32.ofNat (min A B))), .val (.int (Int32.ofNat (max A B))), .val (.int (-1 : Int32)), .val (.int (Int32.ofNat (min A B))), .unset, .unset] [(.int (Int32.ofNat (max A B)))])
        refine Go.step (fun tt kk => XS.istore X153.here hx rfl (hb hby at_121) rfl (l' := #[.val (.int i0), .val (.int i1), .val (.int i2), .val (.int i3), .val (.int (Int32.ofNat W)), .val (.int (Int32.ofNat H)), .val (.int (Int32.ofNat (W + H))), .val (.int (Int32.ofNat A)), .val (.int (Int32.ofNat B)), .val (.ref b1), .val (.int (Int32.ofNat (min A B))), .val (.int (Int32.ofNat (max A B))), .val (.int (-1 : Int32)), .val (.int (Int32.ofNat (min A B))), .val (.int (Int32.ofNat (max A B))), .unset]) rfl kk) ?_
        show Go _ _ _ _ _ _ _ T153 (mkF m 123 #[_, _, _, _, _, _, _, _, _, _, _, _, _, _, _, _] [])
        refine Go.step (fun tt kk => XS.iload X153.here hx rfl (hb hby at_123) rfl kk) ?_
        show Go _ _ _ _ _ _ _ T153 (mkF m 125 #[_, _, _, _, _, _, _, _, _, _, _, _, _, _, _, _] [(.int (Int32.ofNat (min A B)))])
        refine Go.step (fun tt kk => XS.iload X153.here hx rfl (hb hby at_125) rfl kk) ?_
        show Go _ _ _ _ _ _ _ T153 (mkF m 127 #[_, _, _, _, _, _, _, _, _, _, _, _, _, _, _, _] [(.int (Int32.ofNat (max A B))), (.int (Int32.ofNat (min A B)))])
        refine Go.step (fun tt kk => XS.icmpYes X153.here hx rfl (pc0 := 127) (pc' := 134) rfl (hb hby at_127) rfl (feq (mt (own_eq _ _ (by omega) (by omega)).mp (by omega))).2 (by decide) (by decide) kk) ?_
        show Go _ _ _ _ _ _ _ T153 (mkF m 134 #[_, _, _, _, _, _, _, _, _, _, _, _, _, _, _, _] [])
        refine Go.step (fun tt kk => XS.iload X153.here hx rfl (hb hby at_134) rfl kk) ?_
        show Go _ _ _ _ _ _ _ T153 (mkF m 136 #[_, _, _, _, _, _, _, _, _, _, _, _, _, _, _, _] [(.int (Int32.ofNat (max A B)))])
        refine Go.step (fun tt kk => XS.istore X153.here hx rfl (hb hby at_136) rfl (l' := #[.val (.int i0), .val (.int i1), .val (.int i2), .val (.int i3), .val (.int (Int32.ofNat W)), .val (.int (Int32.ofNat H)), .val (.int (Int32.ofNat (W + H))), .val (.int (Int32.ofNat A)), .val (.int (Int32.ofNat B)), .val (.ref b1), .val (.int (Int32.ofNat (min A B))), .val (.int (Int32.ofNat (max A B))), .val (.int (-1 : Int32)), .val (.int (Int32.ofNat (min A B))), .val (.int (Int32.ofNat (max A B))), .val (.int (Int32.ofNat (max A B)))]) rfl kk) ?_
        show Go _ _ _ _ _ _ _ T153 (mkF m 138 #[_, _, _, _, _, _, _, _, _, _, _, _, _, _, _, _] [])
        refine Go.step (fun tt kk => XS.iload X153.here hx rfl (hb hby at_138) rfl kk) ?_
        show Go _ _ _ _ _ _ _ T153 (mkF m 140 #[_, _, _, _, _, _, _, _, _, _, _, _, _, _, _, _] [(.int (Int32.ofNat (min A B)))])
        refine Go.step (fun tt kk => XS.iload X153.here hx rfl (hb hby at_140) rfl kk) ?_
        show Go _ _ _ _ _ _ _ T153 (mkF m 142 #[_, _, _, _, _, _, _, _, _, _, _, _, _, _, _, _] [(.int (Int32.ofNat (min A B))), (.int (Int32.ofNat (min A B)))])
        refine Go.step (fun tt kk => XS.icmpNo X153.here hx rfl (hb hby at_142) rfl (teq ((own_eq _ _ (by omega) (by omega)).mpr (by omega))).2 kk) ?_
        show Go _ _ _ _ _ _ _ T153 (mkF m 145 #[_, _, _, _, _, _, _, _, _, _, _, _, _, _, _, _] [])
        refine Go.step (fun tt kk => XS.iload X153.here hx rfl (hb hby at_145) rfl kk) ?_
        show Go _ _ _ _ _ _ _ T153 (mkF m 147 #[_, _, _, _, _, _, _, _, _, _, _, _, _, _, _, _] [(.int (Int32.ofNat (max A B)))])
        refine Go.step (fun tt kk => XS.iload X153.here hx rfl (hb hby at_147) rfl kk) ?_
        show Go _ _ _ _ _ _ _ T153 (mkF m 149 #[_, _, _, _, _, _, _, _, _, _, _, _, _, _, _, _] [(.int (Int32.ofNat (max A B))), (.int (Int32.ofNat (max A B)))])
        refine Go.step (fun tt kk => XS.icmpNo X153.here hx rfl (hb hby at_149) rfl (teq ((own_eq _ _ (by omega) (by omega)).mpr (by omega))).2 kk) ?_
        show Go _ _ _ _ _ _ _ T153 (mkF m 152 #[_, _, _, _, _, _, _, _, _, _, _, _, _, _, _, _] [])
        refine Go.step (fun tt kk => XS.iload X153.here hx rfl (hb hby at_152) rfl kk) ?_
        show Go _ _ _ _ _ _ _ T153 (mkF m 154 #[_, _, _, _, _, _, _, _, _, _, _, _, _, _, _, _] [(.int (-1 : Int32))])
        refine Go.step (fun tt kk => XS.iconst X153.here hx rfl (hb hby at_154) kk) ?_
        show Go _ _ _ _ _ _ _ T153 (mkF m 155 #[_, _, _, _, _, _, _, _, _, _, _, _, _, _, _, _] [(.int (-1 : Int32)), (.int (-1 : Int32))])
        refine Go.step (fun tt kk => XS.icmpNo X153.here hx rfl (hb hby at_155) rfl (teq rfl).2 kk) ?_
        show Go _ _ _ _ _ _ _ T153 (mkF m 158 #[_, _, _, _, _, _, _, _, _, _, _, _, _, _, _, _] [])
        refine Go.step (fun tt kk => XS.iconst X153.here hx rfl (hb hby at_158) kk) ?_
        show Go _ _ _ _ _ _ _ T153 (mkF m 159 #[_, _, _, _, _, _, _, _, _, _, _, _, _, _, _, _] [(.int (1 : Int32))])
        refine Go.step (fun tt kk => XS.goto X153.here hx rfl (pc0 := 159) (pc' := 163) rfl (hb hby at_159) (by decide) (by decide) kk) ?_
        show Go _ _ _ _ _ _ _ T153 (mkF m 163 #[_, _, _, _, _, _, _, _, _, _, _, _, _, _, _, _] [(.int (1 : Int32))])
        refine go_retN X153 hx (t := .boolean) hret (by simp) hlk (hb hby at_163) (w := (1 : Int32)) rfl ?_ (by decide) (by decide)
        try rw [e153]
        exact ⟨rfl, N153⟩
set_option maxRecDepth 65536 in
set_option maxHeartbeats 40000000 in
theorem comes_1 {Post : Tables → Env → Array Value → State → Outcome → State → Prop} (hpost : ∀ tb e args s v u, (limb_1_1.after args s (.returned v) u = true ∧ limb_1_2.after args s (.returned v) u = true ∧ True) → FrameEnd s (.returned v) u (Jvm.fieldLocs frame_1_writes args s ++ Jvm.arrayLocs frame_1_arrays args s ++ Jvm.staticLocs frame_1_statics s) 32 36992 → Post tb e args s (.returned v) u) :
    ArmFor flags0 classFile x code maxLocals ret World_1 tables_1 room_1 Calls_1 rest_1 Pre_1 Post := by
  intro l hfl _ _ p e ha hc hk s m args below hf hA hF happ hP
  obtain ⟨hcalls, hrest, hpre⟩ := hP
  obtain ⟨-, -, -, hnamed, -, -, -, hat⟩ := (Spec.applies_iff hf).mp happ
  obtain ⟨hg, hn⟩ := and_e (Cond.before_iff.mp (show (Jvm.Cond.and given_1 narrow_1).before args s = true from hpre))
  obtain ⟨hcnt, hg1⟩ := and_e hg
  obtain ⟨ha0, hg2⟩ := and_e hg1
  obtain ⟨ha1, hg3⟩ := and_e hg2
  obtain ⟨ha2, hg4⟩ := and_e hg3
  obtain ⟨w0, w1, w2, w3, rfl⟩ : ∃ w0 w1 w2 w3 : Value, args = #[w0, w1, w2, w3] := by
    have hs : args.size = 4 := by simpa [Cond.value, given_1] using hcnt
    obtain ⟨L⟩ := args
    match L, hs with
    | [w0, w1, w2, w3], _ => exact ⟨w0, w1, w2, w3, rfl⟩
  have hw := fun d (hd : d ∈ tables_1) => atoms_spec (ws := Jvm.Cond.code x code maxLocals ret :: tables_1) hat d (List.mem_cons_of_mem _ hd)
  have hfit : Fit s := fun {y c} hc i hi => by
    obtain ⟨ha, rfl⟩ := Array.getElem?_eq_some_iff.mp hc
    have q := List.all_eq_true.mp ((Array.all_eq_true_iff_forall_mem.mp hF) _ (Array.getElem_mem ha)) i (List.mem_range.mpr hi)
    simpa [Array.getElem?_eq_getElem hi] using q
  obtain ⟨i0, ei0⟩ := is_v ha0
  obtain rfl : w0 = (.int i0) := Option.some.inj ei0
  obtain ⟨i1, ei1⟩ := is_v ha1
  obtain rfl : w1 = (.int i1) := Option.some.inj ei1
  obtain ⟨i2, ei2⟩ := is_v ha2
  obtain rfl : w2 = (.int i2) := Option.some.inj ei2
  obtain ⟨i3, ei3⟩ := is_v hg4
  obtain rfl : w3 = (.int i3) := Option.some.inj ei3
  obtain ⟨n, o, h1, h2, h3, _, L, rfl, ⟨rfl, N⟩, hq⟩ := rm0 l s _ hw tables_1 i0 i1 i2 i3 s.heap s.heap.size (Nat.le_refl _)  p e ha hc hk s m _ below hf ((Spec.applies_iff_loose hf).mp happ).1 ⟨rfl, State.Warmed39.refl s, rfl⟩ trivial
  refine ⟨n, _, h1, h2, h3, hpost _ _ _ _ _ _ ⟨Cond.after_iff.mpr rfl, Cond.after_iff.mpr (eq_i res_at (Term.int_eval (1)) rfl), trivial⟩ ⟨hq.1, hq.2.1, (hq.2.2.sift fun y hy => Or.inr (N y hy)).mono (by decide) (by decide)⟩⟩
theorem main_1_1 : Claimed_1_1 := comes_1 fun _ _ _ _ _ _ h hF => ⟨h.1, hF⟩
theorem main_1_2 : Claimed_1_2 := comes_1 fun _ _ _ _ _ _ h hF => ⟨h.2.1, hF⟩
end Jvm.Pilot.@@N@@
namespace Jvm.Pilot.@@N@@
open Jvm Jvm.ClassFile Sem Op Lib Jvm.Free Jvm.Stand Jvm.Pilot.@@N@@.Jvm.D
/-! MADE BY PROGRAM (witnessworld.py) out of the Statement's table words and the real class files: 21 classes; the members and pool entries that the words name. The judged class is class 1, her method 1. -/
namespace start1
open Jvm.ClassFile
def u (s : String) : CpInfo := .utf8 (stringToUtf16 s)
/-- a pool by its gaps: so many unusable entries, then the entry; so many at the end -/
def gap : Nat → List CpInfo → List CpInfo
  | 0, r => r
  | n + 1, r => .unusable :: gap n r
def poolList (es : List (Nat × CpInfo)) (last : Nat) : List CpInfo := es.foldr (fun e r => gap e.1 (e.2 :: r)) (gap last [])
def pool (es : List (Nat × CpInfo)) (last : Nat) : Array CpInfo := ⟨poolList es last⟩
def fileOf (pool : Array CpInfo) (this : Nat) (attrs : Array Attribute := #[]) (ms : Array MethodInfo := #[]) (fl : Nat := 33) (sup : Nat := 0) (ifs : Array Nat := #[]) (fds : Array FieldInfo := #[]) : ClassFile where
  minorVersion := 0
  majorVersion := 65
  constantPool := pool
  accessFlags := fl
  thisClass := this
  superClass := sup
  interfaces := ifs
  fields := fds
  methods := ms
  attributes := attrs
def plain (name : String) (sup : Option ClassId) : Class where
  name := name
  kind := .ordinary
  loader := none
  accessFlags := 33
  super := sup
  interfaces := #[]
  cf := none
  fields := #[]
  methods := #[]
  instanceTypes := #[]
  staticTypes := #[]
  resolved := #[]
  callSites := []
  init := .initialized
  statics := none
  mirror := none

def pool0 : Array CpInfo := pool [(5, u "<init>"), (0, u "()V"), (1, .class_ 10), (1, u "java/lang/Object")] 113

def k0c0 : Code := { maxStack := 0, maxLocals := 1, code := object_method_1_code, exceptionTable := #[], attributes := #[] }
def k0m0 : Method := { name := "<init>", desc := "()V", sig := { parameters := [], returnType := none }, accessFlags := 1, code := some k0c0 }
/-- java/lang/Object -/
def k0 : Class := { plain "java/lang/Object" none with
  accessFlags := 33
  interfaces := #[]
  cf := some (fileOf pool0 8 #[] #[{ accessFlags := 1, nameIndex := 5, descriptorIndex := 6, attributes := #[] }] 33 0 #[] #[])
  fields := #[]
  methods := #[k0m0]
  instanceTypes := #[]
  staticTypes := #[]
  resolved := Array.replicate 124 none
  statics := none }

def pool1 : Array CpInfo := pool [(2, .class_ 4), (1, u "java/lang/Object"), (0, u "<init>"), (0, u "()V"), (0, .integer 2147483647), (0, .class_ 9), (0, u "com/example/gridwright/gridwright/engine/LargeDraft"), (0, .methodref 8 11), (0, .nameAndType 5 12), (0, u "(II)V"), (0, .class_ 14), (0, u "com/example/gridwright/gridwright/engine/Grid"), (0, .methodref 13 11), (0, .methodref 8 17), (0, .nameAndType 18 19), (0, u "start"), (0, u "(Lcom/example/gridwright/gridwright/engine/Grid;)V"), (0, .methodref 8 21), (0, .nameAndType 22 23), (0, u "await"), (0, u "(I)V"), (0, .methodref 8 25), (0, .nameAndType 26 27), (0, u "next"), (0, u "()I"), (0, .methodref 29 30), (0, .class_ 31), (0, .nameAndType 32 33), (0, u "java/lang/Math"), (0, u "min"), (0, u "(II)I"), (0, .methodref 29 35), (0, .nameAndType 36 33), (0, u "max"), (0, .class_ 38), (0, u "com/example/gridwright/gridwright/engine/LargeDraftAwaitPinLaw"), (2, u "law"), (0, u "(IIII)Z")] 3

def k1m0 : Method := { name := "<init>", desc := "()V", sig := { parameters := [], returnType := none }, accessFlags := 2, code := none }
def k1c1 : Code := { maxStack := 5, maxLocals := 16, code := code, exceptionTable := #[], attributes := #[] }
def k1m1 : Method := { name := "law", desc := "(IIII)Z", sig := { parameters := [.int, .int, .int, .int], returnType := some .boolean }, accessFlags := 9, code := some k1c1 }
/-- com/example/gridwright/gridwright/engine/LargeDraftAwaitPinLaw -/
def k1 : Class := { plain "com/example/gridwright/gridwright/engine/LargeDraftAwaitPinLaw" (some 0) with
  accessFlags := 49
  interfaces := #[]
  cf := some (fileOf pool1 37 #[] #[{ accessFlags := 2, nameIndex := 5, descriptorIndex := 6, attributes := #[] }, { accessFlags := 9, nameIndex := 41, descriptorIndex := 42, attributes := #[] }] 49 2 #[] #[])
  fields := #[]
  methods := #[k1m0, k1m1]
  instanceTypes := #[]
  staticTypes := #[]
  resolved := Array.replicate 46 none
  statics := none }

def pool2 : Array CpInfo := pool [(1, .methodref 2 3), (0, .class_ 4), (0, .nameAndType 5 6), (0, u "java/lang/Object"), (0, u "<init>"), (0, u "()V"), (0, .fieldref 8 9), (0, .class_ 10), (0, .nameAndType 11 12), (0, u "com/example/gridwright/gridwright/engine/Draft"), (0, u "width"), (0, u "I"), (0, .fieldref 8 14), (0, .nameAndType 15 12), (0, u "height"), (4, u "(II)V"), (3, .methodref 25 26), (0, .class_ 27), (0, .nameAndType 11 28), (0, u "com/example/gridwright/gridwright/engine/Grid"), (0, u "()I"), (0, .methodref 25 30), (0, .nameAndType 15 28), (7, .fieldref 8 39), (0, .nameAndType 40 41), (0, u "taken"), (0, u "J"), (0, .fieldref 8 43), (0, .nameAndType 44 12), (0, u "decided"), (0, .methodref 8 46), (0, .nameAndType 47 48), (0, u "startOver"), (0, u "(Lcom/example/gridwright/gridwright/engine/Grid;)V"), (9, u "start")] 15

def k2c0 : Code := { maxStack := 2, maxLocals := 3, code := prog_49_method_1_code, exceptionTable := #[], attributes := #[] }
def k2m0 : Method := { name := "<init>", desc := "(II)V", sig := { parameters := [.int, .int], returnType := none }, accessFlags := 0, code := some k2c0 }
def k2c1 : Code := { maxStack := 3, maxLocals := 2, code := prog_49_method_3_code, exceptionTable := #[], attributes := #[] }
def k2m1 : Method := { name := "start", desc := "(Lcom/example/gridwright/gridwright/engine/Grid;)V", sig := { parameters := [(.object "com/example/gridwright/gridwright/engine/Grid")], returnType := none }, accessFlags := 16, code := some k2c1 }
def k2m2 : Method := { name := "startOver", desc := "(Lcom/example/gridwright/gridwright/engine/Grid;)V", sig := { parameters := [(.object "com/example/gridwright/gridwright/engine/Grid")], returnType := none }, accessFlags := 1024, code := none }
/-- com/example/gridwright/gridwright/engine/Draft -/
def k2 : Class := { plain "com/example/gridwright/gridwright/engine/Draft" (some 0) with
  accessFlags := 1056
  interfaces := #[]
  cf := some (fileOf pool2 8 #[] #[{ accessFlags := 0, nameIndex := 5, descriptorIndex := 20, attributes := #[] }, { accessFlags := 16, nameIndex := 58, descriptorIndex := 48, attributes := #[] }, { accessFlags := 1024, nameIndex := 47, descriptorIndex := 48, attributes := #[] }] 1056 2 #[] #[{ accessFlags := 20, nameIndex := 11, descriptorIndex := 12, attributes := #[] }, { accessFlags := 20, nameIndex := 15, descriptorIndex := 12, attributes := #[] }, { accessFlags := 4, nameIndex := 40, descriptorIndex := 41, attributes := #[] }, { accessFlags := 4, nameIndex := 44, descriptorIndex := 12, attributes := #[] }])
  fields := #[{ name := "width", type := .int, accessFlags := 20, slot := 0, constantValue := 0 }, { name := "height", type := .int, accessFlags := 20, slot := 1, constantValue := 0 }, { name := "taken", type := .long, accessFlags := 4, slot := 2, constantValue := 0 }, { name := "decided", type := .int, accessFlags := 4, slot := 3, constantValue := 0 }]
  methods := #[k2m0, k2m1, k2m2]
  instanceTypes := #[.int, .int, .long, .int]
  staticTypes := #[]
  resolved := Array.replicate 74 none
  statics := none }

def pool3 : Array CpInfo := pool [(1, .methodref 2 3), (0, .class_ 4), (0, .nameAndType 5 6), (0, u "com/example/gridwright/gridwright/engine/Draft"), (0, u "<init>"), (0, u "(II)V"), (0, .methodref 8 9), (0, .class_ 10), (0, .nameAndType 11 12), (0, u "java/lang/Math"), (0, u "max"), (0, u "(II)I"), (0, .methodref 14 15), (0, .class_ 16), (0, .nameAndType 17 18), (0, u "com/example/gridwright/gridwright/engine/Grid"), (0, u "wordsFor"), (0, u "(I)I"), (0, .fieldref 20 21), (0, .class_ 22), (0, .nameAndType 23 24), (0, u "com/example/gridwright/gridwright/engine/LargeDraft"), (0, u "stride"), (0, u "I"), (0, .fieldref 20 26), (0, .nameAndType 27 28), (0, u "filled"), (0, u "[J"), (0, .fieldref 20 30), (0, .nameAndType 31 28), (0, u "empty"), (0, .fieldref 20 33), (0, .nameAndType 34 28), (0, u "changedRows"), (0, .fieldref 20 36), (0, .nameAndType 37 28), (0, u "changedColumns"), (0, .fieldref 20 39), (0, .nameAndType 40 28), (0, u "waitingRows"), (0, .fieldref 20 42), (0, .nameAndType 43 28), (0, u "waitingColumns"), (0, .fieldref 20 45), (0, .nameAndType 46 47), (0, u "grid"), (0, u "Lcom/example/gridwright/gridwright/engine/Grid;"), (0, .methodref 20 49), (0, .nameAndType 50 51), (0, u "clear"), (0, u "([JI)V"), (0, .fieldref 20 53), (0, .nameAndType 54 24), (0, u "height"), (0, .methodref 56 57), (0, .class_ 58), (0, .nameAndType 59 60), (0, u "java/util/Arrays"), (0, u "fill"), (0, u "([JJ)V"), (0, .fieldref 20 62), (0, .nameAndType 63 64), (0, u "rows"), (0, u "Z"), (0, .fieldref 20 66), (0, .nameAndType 67 24), (0, u "scan"), (17, .class_ 87), (1, u "java/lang/Long"), (1, u "(J)I"), (0, .methodref 85 91), (0, .nameAndType 92 89), (0, u "numberOfTrailingZeros"), (0, .fieldref 20 94), (0, .nameAndType 95 96), (0, u "taken"), (0, u "J"), (23, u "startOver"), (0, u "(Lcom/example/gridwright/gridwright/engine/Grid;)V"), (3, u "await"), (0, u "(I)V"), (0, u "next"), (0, u "()I")] 4

def k3c0 : Code := { maxStack := 3, maxLocals := 4, code := prog_61_method_1_code, exceptionTable := #[], attributes := #[] }
def k3m0 : Method := { name := "<init>", desc := "(II)V", sig := { parameters := [.int, .int], returnType := none }, accessFlags := 0, code := some k3c0 }
def k3c1 : Code := { maxStack := 3, maxLocals := 2, code := prog_61_method_2_code, exceptionTable := #[], attributes := #[] }
def k3m1 : Method := { name := "startOver", desc := "(Lcom/example/gridwright/gridwright/engine/Grid;)V", sig := { parameters := [(.object "com/example/gridwright/gridwright/engine/Grid")], returnType := none }, accessFlags := 0, code := some k3c1 }
def k3c2 : Code := { maxStack := 8, maxLocals := 2, code := prog_61_method_6_code, exceptionTable := #[], attributes := #[] }
def k3m2 : Method := { name := "await", desc := "(I)V", sig := { parameters := [.int], returnType := none }, accessFlags := 0, code := some k3c2 }
def k3c3 : Code := { maxStack := 8, maxLocals := 5, code := prog_61_method_7_code, exceptionTable := #[], attributes := #[] }
def k3m3 : Method := { name := "next", desc := "()I", sig := { parameters := [], returnType := some .int }, accessFlags := 0, code := some k3c3 }
def k3c4 : Code := { maxStack := 6, maxLocals := 7, code := prog_61_method_10_code, exceptionTable := #[], attributes := #[] }
def k3m4 : Method := { name := "clear", desc := "([JI)V", sig := { parameters := [(.array .long), .int], returnType := none }, accessFlags := 2, code := some k3c4 }
/-- com/example/gridwright/gridwright/engine/LargeDraft -/
def k3 : Class := { plain "com/example/gridwright/gridwright/engine/LargeDraft" (some 2) with
  accessFlags := 48
  interfaces := #[]
  cf := some (fileOf pool3 20 #[] #[{ accessFlags := 0, nameIndex := 5, descriptorIndex := 6, attributes := #[] }, { accessFlags := 0, nameIndex := 120, descriptorIndex := 121, attributes := #[] }, { accessFlags := 0, nameIndex := 125, descriptorIndex := 126, attributes := #[] }, { accessFlags := 0, nameIndex := 127, descriptorIndex := 128, attributes := #[] }, { accessFlags := 2, nameIndex := 50, descriptorIndex := 51, attributes := #[] }] 48 2 #[] #[{ accessFlags := 18, nameIndex := 23, descriptorIndex := 24, attributes := #[] }, { accessFlags := 2, nameIndex := 46, descriptorIndex := 47, attributes := #[] }, { accessFlags := 18, nameIndex := 27, descriptorIndex := 28, attributes := #[] }, { accessFlags := 18, nameIndex := 31, descriptorIndex := 28, attributes := #[] }, { accessFlags := 18, nameIndex := 34, descriptorIndex := 28, attributes := #[] }, { accessFlags := 18, nameIndex := 37, descriptorIndex := 28, attributes := #[] }, { accessFlags := 18, nameIndex := 40, descriptorIndex := 28, attributes := #[] }, { accessFlags := 18, nameIndex := 43, descriptorIndex := 28, attributes := #[] }, { accessFlags := 2, nameIndex := 63, descriptorIndex := 64, attributes := #[] }, { accessFlags := 2, nameIndex := 67, descriptorIndex := 24, attributes := #[] }])
  fields := #[{ name := "stride", type := .int, accessFlags := 18, slot := 4, constantValue := 0 }, { name := "grid", type := (.object "com/example/gridwright/gridwright/engine/Grid"), accessFlags := 2, slot := 5, constantValue := 0 }, { name := "filled", type := (.array .long), accessFlags := 18, slot := 6, constantValue := 0 }, { name := "empty", type := (.array .long), accessFlags := 18, slot := 7, constantValue := 0 }, { name := "changedRows", type := (.array .long), accessFlags := 18, slot := 8, constantValue := 0 }, { name := "changedColumns", type := (.array .long), accessFlags := 18, slot := 9, constantValue := 0 }, { name := "waitingRows", type := (.array .long), accessFlags := 18, slot := 10, constantValue := 0 }, { name := "waitingColumns", type := (.array .long), accessFlags := 18, slot := 11, constantValue := 0 }, { name := "rows", type := .boolean, accessFlags := 2, slot := 12, constantValue := 0 }, { name := "scan", type := .int, accessFlags := 2, slot := 13, constantValue := 0 }]
  methods := #[k3m0, k3m1, k3m2, k3m3, k3m4]
  instanceTypes := #[.int, .int, .long, .int, .int, (.object "com/example/gridwright/gridwright/engine/Grid"), (.array .long), (.array .long), (.array .long), (.array .long), (.array .long), (.array .long), .boolean, .int]
  staticTypes := #[]
  resolved := Array.replicate 133 none
  statics := none }

def pool4 : Array CpInfo := pool [(1, .class_ 2), (0, u "java/lang/Math"), (1, .class_ 6), (1, u "java/lang/Object"), (0, u "<init>"), (0, u "()V"), (89, .class_ 100), (1, u "java/lang/Math$RandomNumberGeneratorHolder"), (19, u "multiplyExact"), (51, u "negativeZeroFloatBits"), (0, u "J"), (2, u "negativeZeroDoubleBits"), (21, u "max"), (2, u "min"), (43, u "$assertionsDisabled"), (0, u "Z"), (88, u "(II)I"), (2, u "twoToTheDoubleScaleDown"), (0, u "D"), (4, u "twoToTheDoubleScaleUp"), (9, u "E"), (3, u "PI"), (2, u "TAU"), (2, u "DEGREES_TO_RADIANS"), (0, u "RADIANS_TO_DEGREES")] 94

def k4m0 : Method := { name := "<init>", desc := "()V", sig := { parameters := [], returnType := none }, accessFlags := 2, code := none }
def k4c1 : Code := { maxStack := 4, maxLocals := 4, code := jdk_29_method_28_code, exceptionTable := #[], attributes := #[] }
def k4m1 : Method := { name := "multiplyExact", desc := "(II)I", sig := { parameters := [.int, .int], returnType := some .int }, accessFlags := 9, code := some k4c1 }
def k4c2 : Code := { maxStack := 2, maxLocals := 2, code := jdk_29_method_65_code, exceptionTable := #[], attributes := #[] }
def k4m2 : Method := { name := "max", desc := "(II)I", sig := { parameters := [.int, .int], returnType := some .int }, accessFlags := 9, code := some k4c2 }
def k4c3 : Code := { maxStack := 2, maxLocals := 2, code := jdk_29_method_69_code, exceptionTable := #[], attributes := #[] }
def k4m3 : Method := { name := "min", desc := "(II)I", sig := { parameters := [.int, .int], returnType := some .int }, accessFlags := 9, code := some k4c3 }
/-- java/lang/Math -/
def k4 : Class := { plain "java/lang/Math" (some 0) with
  accessFlags := 49
  interfaces := #[]
  cf := some (fileOf pool4 1 #[.nestMembers #[98]] #[{ accessFlags := 2, nameIndex := 7, descriptorIndex := 8, attributes := #[] }, { accessFlags := 9, nameIndex := 120, descriptorIndex := 335, attributes := #[] }, { accessFlags := 9, nameIndex := 198, descriptorIndex := 335, attributes := #[] }, { accessFlags := 9, nameIndex := 201, descriptorIndex := 335, attributes := #[] }] 49 4 #[] #[{ accessFlags := 25, nameIndex := 354, descriptorIndex := 339, attributes := #[] }, { accessFlags := 25, nameIndex := 358, descriptorIndex := 339, attributes := #[] }, { accessFlags := 25, nameIndex := 361, descriptorIndex := 339, attributes := #[] }, { accessFlags := 26, nameIndex := 364, descriptorIndex := 339, attributes := #[] }, { accessFlags := 26, nameIndex := 365, descriptorIndex := 339, attributes := #[] }, { accessFlags := 26, nameIndex := 172, descriptorIndex := 173, attributes := #[] }, { accessFlags := 26, nameIndex := 176, descriptorIndex := 173, attributes := #[] }, { accessFlags := 8, nameIndex := 344, descriptorIndex := 339, attributes := #[] }, { accessFlags := 8, nameIndex := 338, descriptorIndex := 339, attributes := #[] }, { accessFlags := 4120, nameIndex := 245, descriptorIndex := 246, attributes := #[] }])
  fields := #[{ name := "E", type := .double, accessFlags := 25, slot := 0, constantValue := 0 }, { name := "PI", type := .double, accessFlags := 25, slot := 1, constantValue := 0 }, { name := "TAU", type := .double, accessFlags := 25, slot := 2, constantValue := 0 }, { name := "DEGREES_TO_RADIANS", type := .double, accessFlags := 26, slot := 3, constantValue := 0 }, { name := "RADIANS_TO_DEGREES", type := .double, accessFlags := 26, slot := 4, constantValue := 0 }, { name := "negativeZeroFloatBits", type := .long, accessFlags := 26, slot := 5, constantValue := 0 }, { name := "negativeZeroDoubleBits", type := .long, accessFlags := 26, slot := 6, constantValue := 0 }, { name := "twoToTheDoubleScaleUp", type := .double, accessFlags := 8, slot := 7, constantValue := 0 }, { name := "twoToTheDoubleScaleDown", type := .double, accessFlags := 8, slot := 8, constantValue := 0 }, { name := "$assertionsDisabled", type := .boolean, accessFlags := 4120, slot := 9, constantValue := 0 }]
  methods := #[k4m0, k4m1, k4m2, k4m3]
  instanceTypes := #[]
  staticTypes := #[.double, .double, .double, .double, .double, .long, .long, .double, .double, .boolean]
  resolved := Array.replicate 460 none
  statics := none }

def pool5 : Array CpInfo := pool [(1, .methodref 2 3), (0, .class_ 4), (0, .nameAndType 5 6), (0, u "java/lang/Object"), (0, u "<init>"), (0, u "()V"), (9, .fieldref 17 18), (0, .class_ 19), (0, .nameAndType 20 21), (0, u "com/example/gridwright/gridwright/engine/Grid"), (0, u "width"), (0, u "I"), (0, .fieldref 17 23), (0, .nameAndType 24 21), (0, u "height"), (0, .methodref 26 27), (0, .class_ 28), (0, .nameAndType 29 30), (0, u "java/lang/Math"), (0, u "multiplyExact"), (0, u "(II)I"), (0, .fieldref 17 32), (0, .nameAndType 33 34), (0, u "cells"), (0, u "[B"), (0, .long 1099511627776), (1, .fieldref 17 38), (0, .nameAndType 39 40), (0, u "rowFactor"), (0, u "J"), (0, .methodref 26 42), (0, .nameAndType 43 30), (0, u "max"), (0, .methodref 17 45), (0, .nameAndType 46 47), (0, u "wordsFor"), (0, u "(I)I"), (0, .fieldref 17 49), (0, .nameAndType 50 21), (0, u "stride"), (0, .fieldref 17 52), (0, .nameAndType 53 54), (0, u "filled"), (0, u "[J"), (0, .fieldref 17 56), (0, .nameAndType 57 54), (0, u "empty"), (25, u "()I"), (20, u "CELLS"), (0, u "[Lcom/example/gridwright/gridwright/engine/Cell;"), (25, u "ROW_SHIFT"), (2, u "(II)V")] 35

def k5c0 : Code := { maxStack := 5, maxLocals := 4, code := prog_58_method_1_code, exceptionTable := #[], attributes := #[] }
def k5m0 : Method := { name := "<init>", desc := "(II)V", sig := { parameters := [.int, .int], returnType := none }, accessFlags := 1, code := some k5c0 }
def k5c1 : Code := { maxStack := 1, maxLocals := 1, code := prog_58_method_2_code, exceptionTable := #[], attributes := #[] }
def k5m1 : Method := { name := "width", desc := "()I", sig := { parameters := [], returnType := some .int }, accessFlags := 1, code := some k5c1 }
def k5c2 : Code := { maxStack := 1, maxLocals := 1, code := prog_58_method_3_code, exceptionTable := #[], attributes := #[] }
def k5m2 : Method := { name := "height", desc := "()I", sig := { parameters := [], returnType := some .int }, accessFlags := 1, code := some k5c2 }
def k5c3 : Code := { maxStack := 2, maxLocals := 1, code := prog_58_method_13_code, exceptionTable := #[], attributes := #[] }
def k5m3 : Method := { name := "wordsFor", desc := "(I)I", sig := { parameters := [.int], returnType := some .int }, accessFlags := 8, code := some k5c3 }
/-- com/example/gridwright/gridwright/engine/Grid -/
def k5 : Class := { plain "com/example/gridwright/gridwright/engine/Grid" (some 0) with
  accessFlags := 49
  interfaces := #[]
  cf := some (fileOf pool5 17 #[] #[{ accessFlags := 1, nameIndex := 5, descriptorIndex := 134, attributes := #[] }, { accessFlags := 1, nameIndex := 20, descriptorIndex := 83, attributes := #[] }, { accessFlags := 1, nameIndex := 24, descriptorIndex := 83, attributes := #[] }, { accessFlags := 8, nameIndex := 46, descriptorIndex := 47, attributes := #[] }] 49 2 #[] #[{ accessFlags := 26, nameIndex := 104, descriptorIndex := 105, attributes := #[] }, { accessFlags := 18, nameIndex := 20, descriptorIndex := 21, attributes := #[] }, { accessFlags := 18, nameIndex := 24, descriptorIndex := 21, attributes := #[] }, { accessFlags := 18, nameIndex := 33, descriptorIndex := 34, attributes := #[] }, { accessFlags := 18, nameIndex := 39, descriptorIndex := 40, attributes := #[] }, { accessFlags := 26, nameIndex := 131, descriptorIndex := 21, attributes := #[] }, { accessFlags := 18, nameIndex := 50, descriptorIndex := 21, attributes := #[] }, { accessFlags := 18, nameIndex := 53, descriptorIndex := 54, attributes := #[] }, { accessFlags := 18, nameIndex := 57, descriptorIndex := 54, attributes := #[] }])
  fields := #[{ name := "CELLS", type := (.array (.object "com/example/gridwright/gridwright/engine/Cell")), accessFlags := 26, slot := 0, constantValue := 0 }, { name := "width", type := .int, accessFlags := 18, slot := 0, constantValue := 0 }, { name := "height", type := .int, accessFlags := 18, slot := 1, constantValue := 0 }, { name := "cells", type := (.array .byte), accessFlags := 18, slot := 2, constantValue := 0 }, { name := "rowFactor", type := .long, accessFlags := 18, slot := 3, constantValue := 0 }, { name := "ROW_SHIFT", type := .int, accessFlags := 26, slot := 1, constantValue := 0 }, { name := "stride", type := .int, accessFlags := 18, slot := 4, constantValue := 0 }, { name := "filled", type := (.array .long), accessFlags := 18, slot := 5, constantValue := 0 }, { name := "empty", type := (.array .long), accessFlags := 18, slot := 6, constantValue := 0 }]
  methods := #[k5m0, k5m1, k5m2, k5m3]
  instanceTypes := #[.int, .int, (.array .byte), .long, .int, (.array .long), (.array .long)]
  staticTypes := #[(.array (.object "com/example/gridwright/gridwright/engine/Cell")), .int]
  resolved := Array.replicate 170 none
  statics := none }

def pool6 : Array CpInfo := pool [(2, .class_ 4), (1, u "java/lang/Object"), (0, u "<init>"), (0, u "()V"), (7, .class_ 16), (1, u "java/util/Arrays"), (57, .class_ 76), (1, u "java/util/Arrays$NaturalOrder"), (36, .class_ 115), (1, u "java/util/Arrays$LegacyMergeSort"), (1, u "Z"), (257, .class_ 376), (0, u "java/util/Arrays$ArrayList"), (68, u "$assertionsDisabled"), (269, u "MIN_ARRAY_SORT_GRAN"), (0, u "I"), (2, u "INSERTIONSORT_THRESHOLD"), (120, u "fill"), (0, u "([JJ)V"), (133, .class_ 976), (0, u "java/util/Arrays$ArrayItr")] 52

def k6m0 : Method := { name := "<init>", desc := "()V", sig := { parameters := [], returnType := none }, accessFlags := 2, code := none }
def k6c1 : Code := { maxStack := 4, maxLocals := 5, code := jdk_65_method_101_code, exceptionTable := #[], attributes := #[] }
def k6m1 : Method := { name := "fill", desc := "([JJ)V", sig := { parameters := [(.array .long), .long], returnType := none }, accessFlags := 9, code := some k6c1 }
/-- java/util/Arrays -/
def k6 : Class := { plain "java/util/Arrays" (some 0) with
  accessFlags := 49
  interfaces := #[]
  cf := some (fileOf pool6 14 #[.nestMembers #[975, 375, 113, 74]] #[{ accessFlags := 2, nameIndex := 5, descriptorIndex := 6, attributes := #[] }, { accessFlags := 9, nameIndex := 840, descriptorIndex := 841, attributes := #[] }] 49 2 #[] #[{ accessFlags := 26, nameIndex := 715, descriptorIndex := 716, attributes := #[] }, { accessFlags := 26, nameIndex := 719, descriptorIndex := 716, attributes := #[] }, { accessFlags := 4120, nameIndex := 445, descriptorIndex := 117, attributes := #[] }])
  fields := #[{ name := "MIN_ARRAY_SORT_GRAN", type := .int, accessFlags := 26, slot := 0, constantValue := 0 }, { name := "INSERTIONSORT_THRESHOLD", type := .int, accessFlags := 26, slot := 1, constantValue := 0 }, { name := "$assertionsDisabled", type := .boolean, accessFlags := 4120, slot := 2, constantValue := 0 }]
  methods := #[k6m0, k6m1]
  instanceTypes := #[]
  staticTypes := #[.int, .int, .boolean]
  resolved := Array.replicate 1029 none
  statics := none }

def pool7 : Array CpInfo := pool [(1, .class_ 2), (0, u "java/io/Serializable"), (0, .class_ 4), (0, u "java/lang/Object")] 2

/-- java/io/Serializable -/
def k7 : Class := { plain "java/io/Serializable" (some 0) with
  accessFlags := 1537
  interfaces := #[]
  cf := some (fileOf pool7 1 #[] #[] 1537 3 #[] #[])
  fields := #[]
  methods := #[]
  instanceTypes := #[]
  staticTypes := #[]
  resolved := Array.replicate 7 none
  statics := none }

def pool8 : Array CpInfo := pool [(2, .class_ 4), (1, u "java/lang/Object"), (0, u "<init>"), (0, u "()V"), (1, .class_ 10), (1, u "java/lang/Number"), (2, .class_ 14), (0, u "java/io/Serializable"), (0, u "serialVersionUID"), (0, u "J")] 20

def k8m0 : Method := { name := "<init>", desc := "()V", sig := { parameters := [], returnType := none }, accessFlags := 1, code := none }
/-- java/lang/Number -/
def k8 : Class := { plain "java/lang/Number" (some 0) with
  accessFlags := 1057
  interfaces := #[7]
  cf := some (fileOf pool8 8 #[] #[{ accessFlags := 1, nameIndex := 5, descriptorIndex := 6, attributes := #[] }] 1057 2 #[13] #[{ accessFlags := 26, nameIndex := 15, descriptorIndex := 16, attributes := #[] }])
  fields := #[{ name := "serialVersionUID", type := .long, accessFlags := 26, slot := 0, constantValue := 0 }]
  methods := #[k8m0]
  instanceTypes := #[]
  staticTypes := #[.long]
  resolved := Array.replicate 37 none
  statics := none }

def pool9 : Array CpInfo := pool [(1, .class_ 2), (0, u "java/lang/Comparable"), (0, .class_ 4), (0, u "java/lang/Object")] 7

/-- java/lang/Comparable -/
def k9 : Class := { plain "java/lang/Comparable" (some 0) with
  accessFlags := 1537
  interfaces := #[]
  cf := some (fileOf pool9 1 #[] #[] 1537 3 #[] #[])
  fields := #[]
  methods := #[]
  instanceTypes := #[]
  staticTypes := #[]
  resolved := Array.replicate 12 none
  statics := none }

def pool10 : Array CpInfo := pool [(1, .class_ 2), (0, u "java/lang/constant/Constable"), (0, .class_ 4), (0, u "java/lang/Object")] 6

/-- java/lang/constant/Constable -/
def k10 : Class := { plain "java/lang/constant/Constable" (some 0) with
  accessFlags := 1537
  interfaces := #[]
  cf := some (fileOf pool10 1 #[] #[] 1537 3 #[] #[])
  fields := #[]
  methods := #[]
  instanceTypes := #[]
  staticTypes := #[]
  resolved := Array.replicate 11 none
  statics := none }

def pool11 : Array CpInfo := pool [(1, .class_ 2), (0, u "java/lang/constant/ConstantDesc"), (0, .class_ 4), (0, u "java/lang/Object")] 32

/-- java/lang/constant/ConstantDesc -/
def k11 : Class := { plain "java/lang/constant/ConstantDesc" (some 0) with
  accessFlags := 1537
  interfaces := #[]
  cf := some (fileOf pool11 1 #[] #[] 1537 3 #[] #[])
  fields := #[]
  methods := #[]
  instanceTypes := #[]
  staticTypes := #[]
  resolved := Array.replicate 37 none
  statics := none }

def pool12 : Array CpInfo := pool [(1, .class_ 2), (0, u "java/lang/Long"), (15, .class_ 20), (1, u "java/lang/Integer"), (80, u "(J)I"), (133, .class_ 237), (1, u "java/lang/Long$LongCache"), (33, .class_ 272), (0, u "java/lang/Number"), (2, u "value"), (0, u "J"), (33, u "(I)I"), (0, .methodref 18 312), (0, .nameAndType 313 310), (0, u "numberOfTrailingZeros"), (47, u "TYPE"), (0, u "Ljava/lang/Class;"), (0, .class_ 364), (0, u "java/lang/Comparable"), (0, .class_ 366), (0, u "java/lang/constant/Constable"), (0, .class_ 368), (0, u "java/lang/constant/ConstantDesc"), (0, u "MIN_VALUE"), (1, u "MAX_VALUE"), (4, u "SIZE"), (0, u "I"), (1, u "BYTES"), (1, u "serialVersionUID")] 142

def k12c0 : Code := { maxStack := 4, maxLocals := 3, code := jdk_35_method_49_code, exceptionTable := #[], attributes := #[] }
def k12m0 : Method := { name := "numberOfTrailingZeros", desc := "(J)I", sig := { parameters := [.long], returnType := some .int }, accessFlags := 9, code := some k12c0 }
/-- java/lang/Long -/
def k12 : Class := { plain "java/lang/Long" (some 8) with
  accessFlags := 49
  interfaces := #[9, 10, 11]
  cf := some (fileOf pool12 1 #[.nestMembers #[235]] #[{ accessFlags := 9, nameIndex := 313, descriptorIndex := 101, attributes := #[] }] 49 271 #[363, 365, 367] #[{ accessFlags := 25, nameIndex := 369, descriptorIndex := 276, attributes := #[] }, { accessFlags := 25, nameIndex := 371, descriptorIndex := 276, attributes := #[] }, { accessFlags := 25, nameIndex := 361, descriptorIndex := 362, attributes := #[] }, { accessFlags := 18, nameIndex := 275, descriptorIndex := 276, attributes := #[] }, { accessFlags := 25, nameIndex := 376, descriptorIndex := 377, attributes := #[] }, { accessFlags := 25, nameIndex := 379, descriptorIndex := 377, attributes := #[] }, { accessFlags := 26, nameIndex := 381, descriptorIndex := 276, attributes := #[] }])
  fields := #[{ name := "MIN_VALUE", type := .long, accessFlags := 25, slot := 0, constantValue := 0 }, { name := "MAX_VALUE", type := .long, accessFlags := 25, slot := 1, constantValue := 0 }, { name := "TYPE", type := (.object "java/lang/Class"), accessFlags := 25, slot := 2, constantValue := 0 }, { name := "value", type := .long, accessFlags := 18, slot := 0, constantValue := 0 }, { name := "SIZE", type := .int, accessFlags := 25, slot := 3, constantValue := 0 }, { name := "BYTES", type := .int, accessFlags := 25, slot := 4, constantValue := 0 }, { name := "serialVersionUID", type := .long, accessFlags := 26, slot := 5, constantValue := 0 }]
  methods := #[k12m0]
  instanceTypes := #[.long]
  staticTypes := #[.long, .long, (.object "java/lang/Class"), .int, .int, .long]
  resolved := Array.replicate 524 none
  statics := none }

def pool13 : Array CpInfo := pool [(1, .class_ 2), (0, u "java/lang/Integer"), (16, u "digits"), (0, u "[C"), (33, u "(I)I"), (30, u "DigitOnes"), (0, u "[B"), (2, u "DigitTens"), (99, .class_ 190), (0, u "java/lang/Integer$IntegerCache"), (3, u "I"), (8, .class_ 204), (0, u "java/lang/Number"), (2, u "value"), (56, .integer 65536), (37, u "TYPE"), (0, u "Ljava/lang/Class;"), (0, .class_ 305), (0, u "java/lang/Comparable"), (0, .class_ 307), (0, u "java/lang/constant/Constable"), (0, .class_ 309), (0, u "java/lang/constant/ConstantDesc"), (0, u "MIN_VALUE"), (1, u "MAX_VALUE"), (3, u "SIZE"), (1, u "BYTES"), (1, u "serialVersionUID"), (0, u "J"), (84, u "numberOfTrailingZeros")] 46

def k13c0 : Code := { maxStack := 3, maxLocals := 2, code := jdk_33_method_48_code, exceptionTable := #[], attributes := #[] }
def k13m0 : Method := { name := "numberOfTrailingZeros", desc := "(I)I", sig := { parameters := [.int], returnType := some .int }, accessFlags := 9, code := some k13c0 }
/-- java/lang/Integer -/
def k13 : Class := { plain "java/lang/Integer" (some 8) with
  accessFlags := 49
  interfaces := #[9, 10, 11]
  cf := some (fileOf pool13 1 #[.nestMembers #[189]] #[{ accessFlags := 9, nameIndex := 406, descriptorIndex := 54, attributes := #[] }] 49 203 #[304, 306, 308] #[{ accessFlags := 25, nameIndex := 310, descriptorIndex := 194, attributes := #[] }, { accessFlags := 25, nameIndex := 312, descriptorIndex := 194, attributes := #[] }, { accessFlags := 25, nameIndex := 302, descriptorIndex := 303, attributes := #[] }, { accessFlags := 24, nameIndex := 19, descriptorIndex := 20, attributes := #[] }, { accessFlags := 24, nameIndex := 89, descriptorIndex := 86, attributes := #[] }, { accessFlags := 24, nameIndex := 85, descriptorIndex := 86, attributes := #[] }, { accessFlags := 18, nameIndex := 207, descriptorIndex := 194, attributes := #[] }, { accessFlags := 25, nameIndex := 316, descriptorIndex := 194, attributes := #[] }, { accessFlags := 25, nameIndex := 318, descriptorIndex := 194, attributes := #[] }, { accessFlags := 26, nameIndex := 320, descriptorIndex := 321, attributes := #[] }])
  fields := #[{ name := "MIN_VALUE", type := .int, accessFlags := 25, slot := 0, constantValue := 0 }, { name := "MAX_VALUE", type := .int, accessFlags := 25, slot := 1, constantValue := 0 }, { name := "TYPE", type := (.object "java/lang/Class"), accessFlags := 25, slot := 2, constantValue := 0 }, { name := "digits", type := (.array .char), accessFlags := 24, slot := 3, constantValue := 0 }, { name := "DigitTens", type := (.array .byte), accessFlags := 24, slot := 4, constantValue := 0 }, { name := "DigitOnes", type := (.array .byte), accessFlags := 24, slot := 5, constantValue := 0 }, { name := "value", type := .int, accessFlags := 18, slot := 0, constantValue := 0 }, { name := "SIZE", type := .int, accessFlags := 25, slot := 6, constantValue := 0 }, { name := "BYTES", type := .int, accessFlags := 25, slot := 7, constantValue := 0 }, { name := "serialVersionUID", type := .long, accessFlags := 26, slot := 8, constantValue := 0 }]
  methods := #[k13m0]
  instanceTypes := #[.int]
  staticTypes := #[.int, .int, (.object "java/lang/Class"), (.array .char), (.array .byte), (.array .byte), .int, .int, .long]
  resolved := Array.replicate 453 none
  statics := none }

def pool14 : Array CpInfo := pool [(1, u "java/lang/Cloneable"), (0, .class_ 1), (0, u "java/lang/Object"), (0, .class_ 3)] 3

/-- java/lang/Cloneable -/
def k14 : Class := { plain "java/lang/Cloneable" (some 0) with
  accessFlags := 1537
  interfaces := #[]
  cf := some (fileOf pool14 2 #[] #[] 1537 4 #[] #[])
  fields := #[]
  methods := #[]
  instanceTypes := #[]
  staticTypes := #[]
  resolved := Array.replicate 8 none
  statics := none }

/-- the primitive byte -/
def k15 : Class := { plain "byte" none with kind := .primitive 'B', accessFlags := 0x411 }
/-- [B -/
def k16 : Class := { plain "[B" (some 0) with kind := .array 15 .byte, interfaces := #[14, 7], accessFlags := 1041 }

/-- the primitive int -/
def k17 : Class := { plain "int" none with kind := .primitive 'I', accessFlags := 0x411 }
/-- [I -/
def k18 : Class := { plain "[I" (some 0) with kind := .array 17 .int, interfaces := #[14, 7], accessFlags := 1041 }

/-- the primitive long -/
def k19 : Class := { plain "long" none with kind := .primitive 'J', accessFlags := 0x411 }
/-- [J -/
def k20 : Class := { plain "[J" (some 0) with kind := .array 19 .long, interfaces := #[14, 7], accessFlags := 1041 }

def heap : Heap := #[]
def classes : Array Class := #[k0, k1, k2, k3, k4, k5, k6, k7, k8, k9, k10, k11, k12, k13, k14, k15, k16, k17, k18, k19, k20]
def interned : List (Array UInt16 × Addr) := []
def slotsUsed : Nat := 0
def theMethod : MethodId := ⟨1, 1⟩
def args0 : Array Value := #[.int 5, .int 5, .int 5, .int 5]
def aboutOver (below : List Frame) : State where
  vm := { classes := classes, interned := interned.toArray }
  heap := heap
  slotsUsed := slotsUsed
  threads := #[{ frames := .invoking theMethod args0 :: below }]
def below0 : List Frame := [.native { method := ⟨0, 0⟩, args := #[] }]
def about1 : State := aboutOver below0
def p0 : Program := .bare "" "" ""
def e0 : Env := launch0.env 0 0 0
theorem w_frames : about1.frames = Frame.invoking theMethod args0 :: below0 := rfl
set_option maxRecDepth 65536 in
theorem w_args : argsFit about1.vm theMethod args0 = true := by decide +kernel
set_option maxRecDepth 65536 in
theorem w_heap : heapFits about1 = true := by decide +kernel
set_option maxRecDepth 65536 in
theorem w_runnable : about1.curStatus? = some .runnable := by decide +kernel
set_option maxRecDepth 65536 in
theorem w_alone : about1.alone = true := by decide +kernel
set_option maxRecDepth 65536 in
theorem w_named : about1.methodNamed? x = some theMethod := by decide +kernel
set_option maxRecDepth 65536 in
theorem w_hears : about1.hears theMethod below0 = true := by decide +kernel
set_option maxRecDepth 65536 in
theorem w_ripe : about1.ripe theMethod args0 below0 = true := by decide +kernel
theorem w_running : about1.status = .running := rfl
set_option maxRecDepth 65536 in
theorem w_room : about1.hasRoom e0.platform room_1 = true :=
  launch0.hasRoom_least _ room_1 (by decide +kernel) (by decide +kernel) (by decide +kernel) (by decide +kernel) (by decide +kernel) (by decide +kernel)
theorem allAtoms_all (ts : List Jvm.Cond) (a : Array Jvm.Value) (st : Jvm.State) : (allAtoms ts).before a st = ts.all (fun c => c.before a st) := by
  induction ts with
  | nil => rfl
  | cons c t ih =>
    show (Jvm.Cond.and c (allAtoms t)).before a st = _
    rw [Jvm.Cond.before_and, ih, List.all_cons]
def words1 : List Jvm.Cond := Jvm.Cond.code x code maxLocals ret :: tables_1
/-- a 'code' word, met by the world's own term for the bytes: nothing is compared byte by byte -/
theorem code_word {y : MethodName} {bytes : ByteArray} {mx : Nat} {rt : Option FieldType} {a : Array Value} {s : State} {m : MethodId} {meth : Method} {c : Code} (h1 : s.methodNamed? y = some m) (h2 : s.vm.method? m = some meth) (h3 : meth.code = some c) (h4 : c.code = bytes)
    (h5 : (c.maxLocals == mx && c.exceptionTable.isEmpty && decide (c.maxStack ≤ mostOperands) && decide (meth.sig.returnType = rt) && !meth.locks && decide (parseMethodDescriptor y.desc = some meth.sig)) = true) : (Jvm.Cond.code y bytes mx rt).before a s = true := by
  simp only [Bool.and_eq_true, beq_iff_eq, Bool.not_eq_true', decide_eq_true_eq] at h5
  obtain ⟨⟨⟨⟨⟨g1, g2⟩, g3⟩, g4⟩, g5⟩, g6⟩ := h5
  simp [Cond.before, Cond.holds, Cond.value, h1, h2, h3, h4, g1, g2, g3, g4, g5, g6]
def isCode : Jvm.Cond → Bool
  | .code _ _ _ _ => true
  | _ => false
theorem all_split {L : List Jvm.Cond} {P : Jvm.Cond → Bool} (h1 : L.all (fun c => isCode c || P c) = true) (h2 : ∀ c ∈ L.filter isCode, P c = true) : L.all P = true := by
  refine List.all_eq_true.mpr fun c hc => ?_
  have h := List.all_eq_true.mp h1 c hc
  rcases Bool.eq_false_or_eq_true (isCode c) with hi | hi
  · exact h2 c (List.mem_filter.mpr ⟨hc, hi⟩)
  · simpa [hi] using h
set_option maxRecDepth 65536 in
theorem w_c0 : (Jvm.Cond.code x code maxLocals ret).before args0 about1 = true := code_word (m := ⟨1, 1⟩) (meth := k1m1) (c := k1c1) (by decide +kernel) rfl rfl rfl (by decide +kernel)
set_option maxRecDepth 65536 in
theorem w_c1 : (Jvm.Cond.code ({ cls := "com/example/gridwright/gridwright/engine/LargeDraft", name := "<init>", desc := "(II)V" } : Jvm.MethodName) prog_61_method_1_code (4 : Nat) (Option.none : Option Jvm.ClassFile.FieldType)).before args0 about1 = true := code_word (m := ⟨3, 0⟩) (meth := k3m0) (c := k3c0) (by decide +kernel) rfl rfl rfl (by decide +kernel)
set_option maxRecDepth 65536 in
theorem w_c2 : (Jvm.Cond.code ({ cls := "com/example/gridwright/gridwright/engine/Draft", name := "<init>", desc := "(II)V" } : Jvm.MethodName) prog_49_method_1_code (3 : Nat) (Option.none : Option Jvm.ClassFile.FieldType)).before args0 about1 = true := code_word (m := ⟨2, 0⟩) (meth := k2m0) (c := k2c0) (by decide +kernel) rfl rfl rfl (by decide +kernel)
set_option maxRecDepth 65536 in
theorem w_c3 : (Jvm.Cond.code ({ cls := "java/lang/Object", name := "<init>", desc := "()V" } : Jvm.MethodName) object_method_1_code (1 : Nat) (Option.none : Option Jvm.ClassFile.FieldType)).before args0 about1 = true := code_word (m := ⟨0, 0⟩) (meth := k0m0) (c := k0c0) (by decide +kernel) rfl rfl rfl (by decide +kernel)
set_option maxRecDepth 65536 in
theorem w_c4 : (Jvm.Cond.code ({ cls := "java/lang/Math", name := "max", desc := "(II)I" } : Jvm.MethodName) jdk_29_method_65_code (2 : Nat) (Option.some Jvm.ClassFile.FieldType.int)).before args0 about1 = true := code_word (m := ⟨4, 2⟩) (meth := k4m2) (c := k4c2) (by decide +kernel) rfl rfl rfl (by decide +kernel)
set_option maxRecDepth 65536 in
theorem w_c5 : (Jvm.Cond.code ({ cls := "com/example/gridwright/gridwright/engine/Grid", name := "wordsFor", desc := "(I)I" } : Jvm.MethodName) prog_58_method_13_code (1 : Nat) (Option.some Jvm.ClassFile.FieldType.int)).before args0 about1 = true := code_word (m := ⟨5, 3⟩) (meth := k5m3) (c := k5c3) (by decide +kernel) rfl rfl rfl (by decide +kernel)
set_option maxRecDepth 65536 in
theorem w_c6 : (Jvm.Cond.code ({ cls := "com/example/gridwright/gridwright/engine/Grid", name := "<init>", desc := "(II)V" } : Jvm.MethodName) prog_58_method_1_code (4 : Nat) (Option.none : Option Jvm.ClassFile.FieldType)).before args0 about1 = true := code_word (m := ⟨5, 0⟩) (meth := k5m0) (c := k5c0) (by decide +kernel) rfl rfl rfl (by decide +kernel)
set_option maxRecDepth 65536 in
theorem w_c7 : (Jvm.Cond.code ({ cls := "java/lang/Math", name := "multiplyExact", desc := "(II)I" } : Jvm.MethodName) jdk_29_method_28_code (4 : Nat) (Option.some Jvm.ClassFile.FieldType.int)).before args0 about1 = true := code_word (m := ⟨4, 1⟩) (meth := k4m1) (c := k4c1) (by decide +kernel) rfl rfl rfl (by decide +kernel)
set_option maxRecDepth 65536 in
theorem w_c8 : (Jvm.Cond.code ({ cls := "com/example/gridwright/gridwright/engine/Draft", name := "start", desc := "(Lcom/example/gridwright/gridwright/engine/Grid;)V" } : Jvm.MethodName) prog_49_method_3_code (2 : Nat) (Option.none : Option Jvm.ClassFile.FieldType)).before args0 about1 = true := code_word (m := ⟨2, 1⟩) (meth := k2m1) (c := k2c1) (by decide +kernel) rfl rfl rfl (by decide +kernel)
set_option maxRecDepth 65536 in
theorem w_c9 : (Jvm.Cond.code ({ cls := "com/example/gridwright/gridwright/engine/Grid", name := "width", desc := "()I" } : Jvm.MethodName) prog_58_method_2_code (1 : Nat) (Option.some Jvm.ClassFile.FieldType.int)).before args0 about1 = true := code_word (m := ⟨5, 1⟩) (meth := k5m1) (c := k5c1) (by decide +kernel) rfl rfl rfl (by decide +kernel)
set_option maxRecDepth 65536 in
theorem w_c10 : (Jvm.Cond.code ({ cls := "com/example/gridwright/gridwright/engine/Grid", name := "height", desc := "()I" } : Jvm.MethodName) prog_58_method_3_code (1 : Nat) (Option.some Jvm.ClassFile.FieldType.int)).before args0 about1 = true := code_word (m := ⟨5, 2⟩) (meth := k5m2) (c := k5c2) (by decide +kernel) rfl rfl rfl (by decide +kernel)
set_option maxRecDepth 65536 in
theorem w_c11 : (Jvm.Cond.code ({ cls := "com/example/gridwright/gridwright/engine/LargeDraft", name := "startOver", desc := "(Lcom/example/gridwright/gridwright/engine/Grid;)V" } : Jvm.MethodName) prog_61_method_2_code (2 : Nat) (Option.none : Option Jvm.ClassFile.FieldType)).before args0 about1 = true := code_word (m := ⟨3, 1⟩) (meth := k3m1) (c := k3c1) (by decide +kernel) rfl rfl rfl (by decide +kernel)
set_option maxRecDepth 65536 in
theorem w_c12 : (Jvm.Cond.code ({ cls := "com/example/gridwright/gridwright/engine/LargeDraft", name := "clear", desc := "([JI)V" } : Jvm.MethodName) prog_61_method_10_code (7 : Nat) (Option.none : Option Jvm.ClassFile.FieldType)).before args0 about1 = true := code_word (m := ⟨3, 4⟩) (meth := k3m4) (c := k3c4) (by decide +kernel) rfl rfl rfl (by decide +kernel)
set_option maxRecDepth 65536 in
theorem w_c13 : (Jvm.Cond.code ({ cls := "java/util/Arrays", name := "fill", desc := "([JJ)V" } : Jvm.MethodName) jdk_65_method_101_code (5 : Nat) (Option.none : Option Jvm.ClassFile.FieldType)).before args0 about1 = true := code_word (m := ⟨6, 1⟩) (meth := k6m1) (c := k6c1) (by decide +kernel) rfl rfl rfl (by decide +kernel)
set_option maxRecDepth 65536 in
theorem w_c14 : (Jvm.Cond.code ({ cls := "com/example/gridwright/gridwright/engine/LargeDraft", name := "await", desc := "(I)V" } : Jvm.MethodName) prog_61_method_6_code (2 : Nat) (Option.none : Option Jvm.ClassFile.FieldType)).before args0 about1 = true := code_word (m := ⟨3, 2⟩) (meth := k3m2) (c := k3c2) (by decide +kernel) rfl rfl rfl (by decide +kernel)
set_option maxRecDepth 65536 in
theorem w_c15 : (Jvm.Cond.code ({ cls := "com/example/gridwright/gridwright/engine/LargeDraft", name := "next", desc := "()I" } : Jvm.MethodName) prog_61_method_7_code (5 : Nat) (Option.some Jvm.ClassFile.FieldType.int)).before args0 about1 = true := code_word (m := ⟨3, 3⟩) (meth := k3m3) (c := k3c3) (by decide +kernel) rfl rfl rfl (by decide +kernel)
set_option maxRecDepth 65536 in
theorem w_c16 : (Jvm.Cond.code ({ cls := "java/lang/Long", name := "numberOfTrailingZeros", desc := "(J)I" } : Jvm.MethodName) jdk_35_method_49_code (3 : Nat) (Option.some Jvm.ClassFile.FieldType.int)).before args0 about1 = true := code_word (m := ⟨12, 0⟩) (meth := k12m0) (c := k12c0) (by decide +kernel) rfl rfl rfl (by decide +kernel)
set_option maxRecDepth 65536 in
theorem w_c17 : (Jvm.Cond.code ({ cls := "java/lang/Integer", name := "numberOfTrailingZeros", desc := "(I)I" } : Jvm.MethodName) jdk_33_method_48_code (2 : Nat) (Option.some Jvm.ClassFile.FieldType.int)).before args0 about1 = true := code_word (m := ⟨13, 0⟩) (meth := k13m0) (c := k13c0) (by decide +kernel) rfl rfl rfl (by decide +kernel)
set_option maxRecDepth 65536 in
theorem w_c18 : (Jvm.Cond.code ({ cls := "java/lang/Math", name := "min", desc := "(II)I" } : Jvm.MethodName) jdk_29_method_69_code (2 : Nat) (Option.some Jvm.ClassFile.FieldType.int)).before args0 about1 = true := code_word (m := ⟨4, 3⟩) (meth := k4m3) (c := k4c3) (by decide +kernel) rfl rfl rfl (by decide +kernel)
def codes1 : List Jvm.Cond := [Jvm.Cond.code x code maxLocals ret, Jvm.Cond.code ({ cls := "com/example/gridwright/gridwright/engine/LargeDraft", name := "<init>", desc := "(II)V" } : Jvm.MethodName) prog_61_method_1_code (4 : Nat) (Option.none : Option Jvm.ClassFile.FieldType), Jvm.Cond.code ({ cls := "com/example/gridwright/gridwright/engine/Draft", name := "<init>", desc := "(II)V" } : Jvm.MethodName) prog_49_method_1_code (3 : Nat) (Option.none : Option Jvm.ClassFile.FieldType), Jvm.Cond.code ({ cls := "java/lang/Object", name := "<init>", desc := "()V" } : Jvm.MethodName) object_method_1_code (1 : Nat) (Option.none : Option Jvm.ClassFile.FieldType), Jvm.Cond.code ({ cls := "java/lang/Math", name := "max", desc := "(II)I" } : Jvm.MethodName) jdk_29_method_65_code (2 : Nat) (Option.some Jvm.ClassFile.FieldType.int), Jvm.Cond.code ({ cls := "com/example/gridwright/gridwright/engine/Grid", name := "wordsFor", desc := "(I)I" } : Jvm.MethodName) prog_58_method_13_code (1 : Nat) (Option.some Jvm.ClassFile.FieldType.int), Jvm.Cond.code ({ cls := "com/example/gridwright/gridwright/engine/Grid", name := "<init>", desc := "(II)V" } : Jvm.MethodName) prog_58_method_1_code (4 : Nat) (Option.none : Option Jvm.ClassFile.FieldType), Jvm.Cond.code ({ cls := "java/lang/Math", name := "multiplyExact", desc := "(II)I" } : Jvm.MethodName) jdk_29_method_28_code (4 : Nat) (Option.some Jvm.ClassFile.FieldType.int), Jvm.Cond.code ({ cls := "com/example/gridwright/gridwright/engine/Draft", name := "start", desc := "(Lcom/example/gridwright/gridwright/engine/Grid;)V" } : Jvm.MethodName) prog_49_method_3_code (2 : Nat) (Option.none : Option Jvm.ClassFile.FieldType), Jvm.Cond.code ({ cls := "com/example/gridwright/gridwright/engine/Grid", name := "width", desc := "()I" } : Jvm.MethodName) prog_58_method_2_code (1 : Nat) (Option.some Jvm.ClassFile.FieldType.int), Jvm.Cond.code ({ cls := "com/example/gridwright/gridwright/engine/Grid", name := "height", desc := "()I" } : Jvm.MethodName) prog_58_method_3_code (1 : Nat) (Option.some Jvm.ClassFile.FieldType.int), Jvm.Cond.code ({ cls := "com/example/gridwright/gridwright/engine/LargeDraft", name := "startOver", desc := "(Lcom/example/gridwright/gridwright/engine/Grid;)V" } : Jvm.MethodName) prog_61_method_2_code (2 : Nat) (Option.none : Option Jvm.ClassFile.FieldType), Jvm.Cond.code ({ cls := "com/example/gridwright/gridwright/engine/LargeDraft", name := "clear", desc := "([JI)V" } : Jvm.MethodName) prog_61_method_10_code (7 : Nat) (Option.none : Option Jvm.ClassFile.FieldType), Jvm.Cond.code ({ cls := "java/util/Arrays", name := "fill", desc := "([JJ)V" } : Jvm.MethodName) jdk_65_method_101_code (5 : Nat) (Option.none : Option Jvm.ClassFile.FieldType), Jvm.Cond.code ({ cls := "com/example/gridwright/gridwright/engine/LargeDraft", name := "await", desc := "(I)V" } : Jvm.MethodName) prog_61_method_6_code (2 : Nat) (Option.none : Option Jvm.ClassFile.FieldType), Jvm.Cond.code ({ cls := "com/example/gridwright/gridwright/engine/LargeDraft", name := "next", desc := "()I" } : Jvm.MethodName) prog_61_method_7_code (5 : Nat) (Option.some Jvm.ClassFile.FieldType.int), Jvm.Cond.code ({ cls := "java/lang/Long", name := "numberOfTrailingZeros", desc := "(J)I" } : Jvm.MethodName) jdk_35_method_49_code (3 : Nat) (Option.some Jvm.ClassFile.FieldType.int), Jvm.Cond.code ({ cls := "java/lang/Integer", name := "numberOfTrailingZeros", desc := "(I)I" } : Jvm.MethodName) jdk_33_method_48_code (2 : Nat) (Option.some Jvm.ClassFile.FieldType.int), Jvm.Cond.code ({ cls := "java/lang/Math", name := "min", desc := "(II)I" } : Jvm.MethodName) jdk_29_method_69_code (2 : Nat) (Option.some Jvm.ClassFile.FieldType.int)]
set_option maxRecDepth 65536 in
theorem codes_eq : words1.filter isCode = codes1 := rfl
theorem w_codes : ∀ c ∈ words1.filter isCode, c.before args0 about1 = true := by
  rw [codes_eq]
  intro c hc
  simp only [codes1, List.mem_cons, List.not_mem_nil, or_false] at hc
  rcases hc with rfl | rfl | rfl | rfl | rfl | rfl | rfl | rfl | rfl | rfl | rfl | rfl | rfl | rfl | rfl | rfl | rfl | rfl | rfl
  · exact w_c0
  · exact w_c1
  · exact w_c2
  · exact w_c3
  · exact w_c4
  · exact w_c5
  · exact w_c6
  · exact w_c7
  · exact w_c8
  · exact w_c9
  · exact w_c10
  · exact w_c11
  · exact w_c12
  · exact w_c13
  · exact w_c14
  · exact w_c15
  · exact w_c16
  · exact w_c17
  · exact w_c18
set_option maxRecDepth 65536 in
theorem w_t1 : (words1.take 24).all (fun c => isCode c || c.before args0 about1) = true := by decide +kernel
set_option maxRecDepth 65536 in
theorem w_t2 : ((words1.drop 24).take 24).all (fun c => isCode c || c.before args0 about1) = true := by decide +kernel
set_option maxRecDepth 65536 in
theorem w_t3 : (((words1.drop 24).drop 24).take 24).all (fun c => isCode c || c.before args0 about1) = true := by decide +kernel
set_option maxRecDepth 65536 in
theorem w_t4 : ((((words1.drop 24).drop 24).drop 24).take 24).all (fun c => isCode c || c.before args0 about1) = true := by decide +kernel
set_option maxRecDepth 65536 in
theorem w_t5 : (((((words1.drop 24).drop 24).drop 24).drop 24).take 24).all (fun c => isCode c || c.before args0 about1) = true := by decide +kernel
set_option maxRecDepth 65536 in
theorem w_t6 : (((((words1.drop 24).drop 24).drop 24).drop 24).drop 24).all (fun c => isCode c || c.before args0 about1) = true := by decide +kernel
theorem w_tables : (allAtoms (Jvm.Cond.code x code maxLocals ret :: tables_1)).before args0 about1 = true := by
  rw [allAtoms_all]
  show words1.all (fun c => c.before args0 about1) = true
  refine all_split ?_ w_codes
  rw [← List.take_append_drop 24 words1, List.all_append, w_t1, ← List.take_append_drop 24 (words1.drop 24), List.all_append, w_t2, ← List.take_append_drop 24 ((words1.drop 24).drop 24), List.all_append, w_t3, ← List.take_append_drop 24 (((words1.drop 24).drop 24).drop 24), List.all_append, w_t4, ← List.take_append_drop 24 ((((words1.drop 24).drop 24).drop 24).drop 24), List.all_append, w_t5, w_t6]
  rfl
set_option maxRecDepth 65536 in
theorem w_case : (Jvm.Cond.and given_1 narrow_1).before args0 about1 = true := by decide +kernel
theorem w_applies : (headSpec (Jvm.Cond.code x code maxLocals ret :: tables_1) room_1).applies x e0.platform about1 = true :=
  (Spec.applies_iff w_frames).mpr ⟨w_running, w_runnable, w_alone, w_named, w_hears, w_ripe, w_room, w_tables⟩
theorem atStart : AtStart classFile x code maxLocals ret World_1 tables_1 room_1 Calls_1 rest_1 Pre_1 launch0 p0 e0 about1 theMethod args0 below0 :=
  ⟨lists_1, trivial, launch0.admits_env _ _ _, launch0.least_env, fairChoices_fair.cas, fairChoices_fair.clock, w_frames, w_args, w_heap, w_applies, trivial, trivial, w_case⟩
end start1
theorem witness_1 : WitnessClaimed_1 := ⟨start1.p0, start1.e0, start1.about1, start1.theMethod, start1.args0, start1.below0, start1.atStart⟩
end Jvm.Pilot.@@N@@
