import JvmDerived
import JvmDerived.Pilot.@@N@@Statement
import JvmDerived.Pilot.@@N@@Code
set_option linter.unusedVariables false
set_option linter.unusedSimpArgs false
namespace Jvm.RoadKit
open Sem ClassFile Op Lib Jvm.Stand Jvm.Free Jvm.LawKit
section New
variable {p : Program} {l : Launch} {e : Env} {R : Room} {s : State} {m : MethodId} {args : Array Value} {below : List Frame} {meth : Method} {c : Code} {T : State} {locs : List Loc} {cells slots : Nat}
theorem retI (X : Stand p l e R s m args below meth c T locs cells slots) (hx : p.tables.exec = Jvm.exec) {pc : Nat} {Ls : Array Slot} {z : Int32} {rest : List Value} (hret : meth.sig.returnType = some .int) (hd : decode c.code pc = .ok (.ireturn, 1)) {fs : List Frame}
    (hl : ∀ (f : JFrame) (acts : List Action), f.method = m → f.locked = none → f.entered = [] → (doReturn e (T.setTop f) acts (some (.int z))).1 = T.setFrames fs) : Steps p.tables e below (T.setTop (mkF m pc Ls (.int z :: rest))) (T.setFrames fs) := by
  have hm' : T.vm.method? m = some meth := X.method'
  have hn : narrow .int (.int z) = .int z := rfl
  show Steps p.tables e below (T.setTop { method := m, pc := pc, locals := Ls, stack := _ :: rest, locked := none }) _
  jvm_step X.here [X.here.top, hx, hd, hm', hret, hn]
  first | (intro acts; rw [hl _ acts rfl rfl rfl]) | rw [hl _ _ rfl rfl rfl]
  exact Steps.refl _
end New
end Jvm.RoadKit
namespace Jvm.Pilot.@@N@@
open Jvm Jvm.ClassFile Sem Op Lib Jvm.Free Jvm.Stand Jvm.LawKit Jvm.RoadKit Bundle Jvm.Pilot.@@N@@.Jvm.D
/-- the run from a frame of this method ends in a return with Q -/
def Go (p : Program) (e : Env) (s : State) (below : List Frame) (kc ks : Nat) (Q : Option Value → Heap → List Loc → Prop) (T : State) (f : JFrame) : Prop :=
  ∃ s₂ o, Steps p.tables e below (T.setTop f) s₂ ∧ s₂.status = .running ∧ Ended s₂ below o ∧ ∃ v L, o = .returned v ∧ Q v s₂.heap L ∧ FrameEnd s o s₂ L kc ks
/-- what is known of the method that runs -/
def Cx (p : Program) (s : State) (m : MethodId) (meth : Method) (c : Code) (Z : State) (own nm : String) (code : ByteArray) (maxL : Nat) (ret : Option FieldType) : Prop :=
  p.tables.exec = Jvm.exec ∧ Z.Warmed39 s.vm ∧ c.code = code ∧ c.maxLocals = maxL ∧ s.vm.findClass own = some m.cls ∧ meth.name = nm ∧ meth.sig.returnType = ret ∧ meth.locks = false
/-- a contract -/
def Ctr (l : Launch) (Z : State) (y : MethodName) (bytes : ByteArray) (maxL : Nat) (ret : Option FieldType) (ws : List Jvm.Cond) (rm : Room) (kc ks : Nat) (as : Array Value) (h : Heap) (Q : Option Value → Heap → List Loc → Prop) : Prop :=
  MetFree l y (head1 (Jvm.Cond.code y bytes maxL ret :: ws) rm) (fun a U => a = as ∧ Z.Warmed39 U.vm ∧ U.heap = h) (fun _ _ _ _ _ => True) (fun _ U o U' => ∃ v L, o = .returned v ∧ Q v U'.heap L ∧ FrameEnd U o U' L kc ks)
def bi (P : Prop) [Decidable P] : Int32 := if P then 1 else 0
theorem bi_t {P : Prop} [Decidable P] (h : P) : bi P = 1 := if_pos h
theorem bi_f {P : Prop} [Decidable P] (h : ¬ P) : bi P = 0 := if_neg h
theorem bi_n {P : Prop} [Decidable P] (h : P) : ¬ bi P = 0 := by rw [bi_t h]; decide
theorem bi_1 {P : Prop} [Decidable P] : bi P = 1 ↔ P := by unfold bi; split <;> simp_all
theorem bi_0 {P : Prop} [Decidable P] : bi P = 0 ↔ ¬ P := by unfold bi; split <;> simp_all
theorem bi_eq {P P' : Prop} [Decidable P] [Decidable P'] : bi P = bi P' ↔ (P ↔ P') := by unfold bi; split <;> split <;> simp_all
theorem bi_congr {P P' : Prop} [Decidable P] [Decidable P'] (h : P ↔ P') : bi P = bi P' := bi_eq.mpr h
theorem bi_fits {P : Prop} [Decidable P] : fits .boolean (.int (bi P)) = true := by unfold bi; split <;> rfl
theorem bi_nar {P : Prop} [Decidable P] : nar .boolean (bi P) = bi P := by unfold bi; split <;> rfl
section Own
variable {p : Program} {l : Launch} {e : Env} {R : Room} {s : State} {m : MethodId} {args : Array Value} {below : List Frame} {meth : Method} {c : Code} {T : State} {locs : List Loc} {cells slots kc ks : Nat} {Q : Option Value → Heap → List Loc → Prop} {Z : State} {a0 : Array Value} {h : Heap}
theorem Go.step {T' : State} {f f' : JFrame} (st : ∀ t, Steps p.tables e below (T'.setTop f') t → Steps p.tables e below (T.setTop f) t) (k : Go p e s below kc ks Q T' f') : Go p e s below kc ks Q T f := by
  obtain ⟨s₂, o, h1, r⟩ := k; exact ⟨s₂, o, st _ h1, r⟩
theorem Go.mono {Q' : Option Value → Heap → List Loc → Prop} {f : JFrame} (k : Go p e s below kc ks Q T f) (h : ∀ v h L, Q v h L → Q' v h L) : Go p e s below kc ks Q' T f := by
  obtain ⟨s₂, o, h1, h2, h3, v, L, h4, h5, h6⟩ := k; exact ⟨s₂, o, h1, h2, h3, v, L, h4, h _ _ _ h5, h6⟩
theorem Ctr.mk {y : MethodName} {bytes : ByteArray} {maxL : Nat} {ret : Option FieldType} {ws : List Jvm.Cond} {rm : Room} {as : Array Value} (hp : plainFor y = true)
    (hgo : ∀ (p : Program) (e : Env) (s : State) (m : MethodId) (below : List Frame) (meth : Method) (c : Code) (s₁ : State), Stand p l e rm s m as below meth c s₁ [] 0 0 → Cx p s m meth c Z y.cls y.name bytes maxL ret → s₁.heap = h → Go p e s below kc ks Q s₁ (entryFrame m as maxL)) :
    Ctr l Z y bytes maxL ret ws rm kc ks as h Q := by
  refine MetFree.of_bodySF hp hisR ?_
  intro p e s m args below meth c s₁ Bd hml0 hP hK
  obtain ⟨rfl, hZ, hh⟩ := hP
  exact hgo p e s m below meth c s₁ (Stand.of_body Bd) ⟨Bd.exec, hZ, Bd.bytes, hml0, findClass_of_methodNamed Bd.named, (name_of_methodNamed Bd.named Bd.method).1, Bd.returns, Bd.notSynchronized⟩ (by rw [← hh, Bd.state]; rfl)
theorem go_cast {f f' : JFrame} (q : f = f') (k : Go p e s below kc ks Q T f') : Go p e s below kc ks Q T f := q ▸ k
theorem go_retI (X : Stand p l e R s m args below meth c T locs cells slots) (hx : p.tables.exec = Jvm.exec) (hret : meth.sig.returnType = some .int) (hlk : meth.locks = false) {pc : Nat} {Ls : Array Slot} {z : Int32} {rest : List Value} (hd : decode c.code pc = .ok (.ireturn, 1))
    (hQ : Q (some (.int z)) T.heap locs) (hc : cells ≤ kc) (hs : slots ≤ ks) : Go p e s below kc ks Q T (mkF m pc Ls (.int z :: rest)) := by
  obtain ⟨fs, hr, hrun, hended, hW, hsame⟩ := X.leave (v := some (.int z)) (fun h => by rw [hret] at h; cases h) hlk
  exact ⟨_, _, retI X hx hret hd hr, hrun, hended, _, _, rfl, hQ, ⟨_, rfl⟩, hW, hsame.mono hc hs⟩
theorem go_retN (X : Stand p l e R s m args below meth c T locs cells slots) (hx : p.tables.exec = Jvm.exec) {t : FieldType} (hret : meth.sig.returnType = some t) (ht : t = .boolean ∨ t = .byte ∨ t = .char ∨ t = .short) (hlk : meth.locks = false) {pc : Nat} {Ls : Array Slot} {z w : Int32} {rest : List Value} (hd : decode c.code pc = .ok (.ireturn, 1))
    (hz : nar t z = w) (hQ : Q (some (.int w)) T.heap locs) (hc : cells ≤ kc) (hs : slots ≤ ks) : Go p e s below kc ks Q T (mkF m pc Ls (.int z :: rest)) := by
  subst hz
  obtain ⟨fs, hr, hrun, hended, hW, hsame⟩ := X.leave (v := some (.int (nar t z))) (fun h => by rw [hret] at h; cases h) hlk
  exact ⟨_, _, retN X hx hret ht hd hr, hrun, hended, _, _, rfl, hQ, ⟨_, rfl⟩, hW, hsame.mono hc hs⟩
theorem go_retJ (X : Stand p l e R s m args below meth c T locs cells slots) (hx : p.tables.exec = Jvm.exec) (hret : meth.sig.returnType = some .long) (hlk : meth.locks = false) {pc : Nat} {Ls : Array Slot} {z : Int64} (hd : decode c.code pc = .ok (.lreturn, 1))
    (hQ : Q (some (.long z)) T.heap locs) (hc : cells ≤ kc) (hs : slots ≤ ks) : Go p e s below kc ks Q T (mkF m pc Ls [.long z]) := by
  obtain ⟨fs, hr, hrun, hended, hW, hsame⟩ := X.leave (v := some (.long z)) (fun h => by rw [hret] at h; cases h) hlk
  exact ⟨_, _, X.lreturnOut hx hret hd hr, hrun, hended, _, _, rfl, hQ, ⟨_, rfl⟩, hW, hsame.mono hc hs⟩
theorem go_retA (X : Stand p l e R s m args below meth c T locs cells slots) (hx : p.tables.exec = Jvm.exec) {t : FieldType} (hret : meth.sig.returnType = some t) (ht : t.isReference = true) (hlk : meth.locks = false) {pc : Nat} {Ls : Array Slot} {w : Value} {rest : List Value} (hw : w.isRef = true) (hd : decode c.code pc = .ok (.areturn, 1))
    (hQ : Q (some w) T.heap locs) (hc : cells ≤ kc) (hs : slots ≤ ks) : Go p e s below kc ks Q T (mkF m pc Ls (w :: rest)) := by
  obtain ⟨fs, hr, hrun, hended, hW, hsame⟩ := X.leave (v := some w) (fun h => by rw [hret] at h; cases h) hlk
  have hn : narrow t w = w := by cases t <;> first | rfl | simp [FieldType.isReference] at ht
  exact ⟨_, _, retOut X hx hret hn (Or.inr (Or.inr (Or.inr (Or.inr ⟨rfl, ht, hw⟩)))) hd hr, hrun, hended, _, _, rfl, hQ, ⟨_, rfl⟩, hW, hsame.mono hc hs⟩
theorem go_ret (X : Stand p l e R s m args below meth c T locs cells slots) (hx : p.tables.exec = Jvm.exec) (hret : meth.sig.returnType = none) (hlk : meth.locks = false) {pc : Nat} {Ls : Array Slot} (hd : decode c.code pc = .ok (.return_, 1))
    (hQ : Q none T.heap locs) (hc : cells ≤ kc) (hs : slots ≤ ks) : Go p e s below kc ks Q T (mkF m pc Ls []) := by
  obtain ⟨fs, hr, hrun, hended, hW, hsame⟩ := X.leave (v := none) (fun _ => rfl) hlk
  exact ⟨_, _, X.returnOut hx hret hd hr, hrun, hended, _, _, rfl, hQ, ⟨_, rfl⟩, hW, hsame.mono hc hs⟩
/-! calls by a contract -/
section Calls
variable {own : String} {index : Nat} {y : MethodName} {bytes : ByteArray} {maxL : Nat} {ret r : Option FieldType} {rm : Room} {Qc : Option Value → Heap → List Loc → Prop} {argsL rest : List Value} {ps : List FieldType} {pc W : Nat} {Ls : Array Slot} {a : Addr}
theorem c_static (X : Stand p l e R s m args below meth c T locs cells slots) (hx : p.tables.exec = Jvm.exec) (hZ : Z.Warmed39 s.vm) (hown : s.vm.findClass own = some m.cls)
    (w1 : (Jvm.Cond.methodLink own index y).before a0 Z = true) (w2 : (Jvm.Cond.static y).before a0 Z = true) (w3 : (Jvm.Cond.initialized y.cls).before a0 Z = true) (w4 : (Jvm.Cond.code y bytes maxL ret).before a0 Z = true) (hy : y.cls ≠ "java/lang/invoke/MethodHandle" ∧ y.cls ≠ "java/lang/invoke/VarHandle")
    (hC : Ctr l Z y bytes maxL ret [] rm rm.cells rm.slots argsL.toArray h Qc) (eT : T.heap = h) (hpd : parseMethodDescriptor y.desc = some ⟨ps, r⟩) (hlen : argsL.length = ps.length) (hsz : Ls.size = c.maxLocals) (hW : 2 * 0 + (rest.map fun v => v.category).sum ≤ W)
    (hf : rm.frames + 1 ≤ R.frames) (hl : W + (maxL + 11) + rm.locals ≤ R.locals) (hc : cells + rm.cells ≤ R.cells) (hs : slots + rm.slots ≤ R.slots) (hd : decode c.code pc = .ok (.invokestatic index, 3)) :
    ∃ (v : Option Value) (T' : State) (L : List Loc), Stand p l e R s m args below meth c T' (locs ++ L) (cells + rm.cells) (slots + rm.slots) ∧ Qc v T'.heap L ∧
      ∀ t, Steps p.tables e below (T'.setTop (mkF m (pc + 3) Ls (v.toList ++ rest))) t → Steps p.tables e below (T.setTop (mkF m pc Ls (argsL.reverse ++ rest))) t := by
  obtain ⟨v, _, ⟨T', L', k', n'⟩, -, X', ⟨L, hQ, rfl, rfl, rfl⟩, st⟩ := Jvm.LawKit.callS X hx (y := y) hown (mvT hZ w1) (mvT hZ w2) (mvT hZ w3) (mvT hZ w4) hy (backOf (W := W) hC hZ w4 w3 hf hl) (g := mkF m pc Ls (argsL.reverse ++ rest)) rfl hsz (argsL := argsL) (rest := rest) (lenOf hpd hlen) rfl hW hd (fun _ _ => ⟨rfl, eT, hc, hs⟩)
  exact ⟨v, T', L, X', hQ, st⟩
theorem c_init (X : Stand p l e R s m args below meth c T locs cells slots) (hx : p.tables.exec = Jvm.exec) (hZ : Z.Warmed39 s.vm) (hown : s.vm.findClass own = some m.cls)
    (w1 : (Jvm.Cond.methodLink own index y).before a0 Z = true) (w2 : (Jvm.Cond.instanceMethod y).before a0 Z = true) (w3 : (Jvm.Cond.initialized y.cls).before a0 Z = true) (w4 : (Jvm.Cond.code y bytes maxL none).before a0 Z = true) (hn : y.name = "<init>") (hy : y.cls ≠ "java/lang/invoke/MethodHandle" ∧ y.cls ≠ "java/lang/invoke/VarHandle")
    (hC : Ctr l Z y bytes maxL none [] rm rm.cells rm.slots (.ref a :: argsL).toArray h Qc) (eT : T.heap = h) (hpd : parseMethodDescriptor y.desc = some ⟨ps, r⟩) (hlen : argsL.length = ps.length) (hsz : Ls.size = c.maxLocals) (hW : 2 * 0 + (rest.map fun v => v.category).sum ≤ W)
    (hf : rm.frames + 1 ≤ R.frames) (hl : W + (maxL + 11) + rm.locals ≤ R.locals) (hc : cells + rm.cells ≤ R.cells) (hs : slots + rm.slots ≤ R.slots) (hd : decode c.code pc = .ok (.invokespecial index, 3)) :
    ∃ (v : Option Value) (T' : State) (L : List Loc), Stand p l e R s m args below meth c T' (locs ++ L) (cells + rm.cells) (slots + rm.slots) ∧ Qc v T'.heap L ∧
      ∀ t, Steps p.tables e below (T'.setTop (mkF m (pc + 3) Ls (v.toList ++ rest))) t → Steps p.tables e below (T.setTop (mkF m pc Ls (argsL.reverse ++ .ref a :: rest))) t := by
  obtain ⟨v, _, ⟨T', L', k', n'⟩, -, X', ⟨L, hQ, rfl, rfl, rfl⟩, st⟩ := X.specialBack hx (y := y) hn hown (mvT hZ w1) (mvT hZ w2) (mvT hZ w4) hy (backOf (W := W) hC hZ w4 w3 hf hl) (g := mkF m pc Ls (argsL.reverse ++ .ref a :: rest)) rfl hsz (Steps.refl _) (a := a) (argsL := argsL) (rest := rest) (lenOf hpd hlen) rfl hW hd (fun _ _ => ⟨rfl, eT, hc, hs⟩)
  exact ⟨v, T', L, X', hQ, fun t k => st.trans k⟩
theorem c_virt {y' : MethodName} {C : String} (X : Stand p l e R s m args below meth c T locs cells slots) (hx : p.tables.exec = Jvm.exec) (hZ : Z.Warmed39 s.vm) (hown : s.vm.findClass own = some m.cls)
    (w1 : (Jvm.Cond.methodLink own index y').before a0 Z = true) (wd : (Jvm.Cond.declares y').before a0 Z = true) (nf : NotFace s y') (ws : (Jvm.Cond.selects C y' y).before a0 Z = true) (w2 : (Jvm.Cond.instanceMethod y).before a0 Z = true) (w3 : (Jvm.Cond.initialized y.cls).before a0 Z = true) (w4 : (Jvm.Cond.code y bytes maxL ret).before a0 Z = true) (hy : y'.cls ≠ "java/lang/invoke/MethodHandle" ∧ y'.cls ≠ "java/lang/invoke/VarHandle")
    (hC : Ctr l Z y bytes maxL ret [] rm rm.cells rm.slots (.ref a :: argsL).toArray h Qc) (eT : T.heap = h) (E : Exa Z h a C) (hpd : parseMethodDescriptor y'.desc = some ⟨ps, r⟩) (hlen : argsL.length = ps.length) (hsz : Ls.size = c.maxLocals) (hW : 2 * 0 + (rest.map fun v => v.category).sum ≤ W)
    (hf : rm.frames + 1 ≤ R.frames) (hl : W + (maxL + 11) + rm.locals ≤ R.locals) (hc : cells + rm.cells ≤ R.cells) (hs : slots + rm.slots ≤ R.slots) (hd : decode c.code pc = .ok (.invokevirtual index, 3)) :
    ∃ (v : Option Value) (T' : State) (L : List Loc), Stand p l e R s m args below meth c T' (locs ++ L) (cells + rm.cells) (slots + rm.slots) ∧ Qc v T'.heap L ∧
      ∀ t, Steps p.tables e below (T'.setTop (mkF m (pc + 3) Ls (v.toList ++ rest))) t → Steps p.tables e below (T.setTop (mkF m pc Ls (argsL.reverse ++ .ref a :: rest))) t := by
  obtain ⟨cq, kq, qa, qb, qc⟩ := isOf hZ eT E
  obtain ⟨v, _, ⟨T', L', k', n'⟩, -, X', ⟨L, hQ, rfl, rfl, rfl⟩, st⟩ := X.virtualBack hx (y := y') (z := y) hown (mvT hZ w1) (mvT hZ wd) nf (mvT hZ ws) (mvT hZ w2) hy (backOf (W := W) hC hZ w4 w3 hf hl) qa qc (g := mkF m pc Ls (argsL.reverse ++ .ref a :: rest)) rfl hsz (Steps.refl _) (argsL := argsL) (rest := rest) (lenOf hpd hlen) rfl hW hd (fun _ _ => ⟨rfl, eT, hc, hs⟩)
  exact ⟨v, T', L, X', hQ, fun t k => st.trans k⟩
theorem own_nf {y' z : MethodName} {C : String} {as : Array Value} (ws : (Jvm.Cond.selects C y' z).before as s = true) (h : z.cls = y.cls) : NotFace s y := fun r0 h0 => by
  obtain ⟨_, _, m2, -, -, q3, -, kP, hkP, hkPi⟩ := Cond.selects_spec ws
  have e1 := findClass_of_methodNamed q3
  rw [h] at e1
  have e2 : m2.cls = r0.cls := Option.some.inj (e1.symm.trans (findClass_of_methodNamed h0))
  exact ⟨kP, e2 ▸ hkP, hkPi⟩
/-- a private method of an object, by invokevirtual: its class isn't an interface (nf) -/
theorem c_priv {C : String} (X : Stand p l e R s m args below meth c T locs cells slots) (hx : p.tables.exec = Jvm.exec) (hZ : Z.Warmed39 s.vm) (hown : s.vm.findClass own = some m.cls)
    (w1 : (Jvm.Cond.methodLink own index y).before a0 Z = true) (w2 : (Jvm.Cond.instanceMethod y).before a0 Z = true) (nf : NotFace s y) (wp : (Jvm.Cond.privateMethod y).before a0 Z = true) (w3 : (Jvm.Cond.initialized y.cls).before a0 Z = true) (w4 : (Jvm.Cond.code y bytes maxL ret).before a0 Z = true) (hy : y.cls ≠ "java/lang/invoke/MethodHandle" ∧ y.cls ≠ "java/lang/invoke/VarHandle")
    (hC : Ctr l Z y bytes maxL ret [] rm rm.cells rm.slots (.ref a :: argsL).toArray h Qc) (eT : T.heap = h) (E : Exa Z h a C) (hpd : parseMethodDescriptor y.desc = some ⟨ps, r⟩) (hlen : argsL.length = ps.length) (hsz : Ls.size = c.maxLocals) (hW : 2 * 0 + (rest.map fun v => v.category).sum ≤ W)
    (hf : rm.frames + 1 ≤ R.frames) (hl : W + (maxL + 11) + rm.locals ≤ R.locals) (hc : cells + rm.cells ≤ R.cells) (hs : slots + rm.slots ≤ R.slots) (hd : decode c.code pc = .ok (.invokevirtual index, 3)) :
    ∃ (v : Option Value) (T' : State) (L : List Loc), Stand p l e R s m args below meth c T' (locs ++ L) (cells + rm.cells) (slots + rm.slots) ∧ Qc v T'.heap L ∧
      ∀ t, Steps p.tables e below (T'.setTop (mkF m (pc + 3) Ls (v.toList ++ rest))) t → Steps p.tables e below (T.setTop (mkF m pc Ls (argsL.reverse ++ .ref a :: rest))) t := by
  obtain ⟨cq, qa, qb⟩ := E.cell
  obtain ⟨mk, methM, hnamed, hmethM, hstM, habM⟩ := Cond.instanceMethod_spec (mvT (args := args) hZ w2)
  obtain ⟨methM', cM, hmethM', -, -, -, -, -, -, hsigM⟩ := Cond.code_spec hnamed (mvT (args := args) hZ w4)
  cases hmethM.symm.trans hmethM'
  obtain ⟨kP, hkP, hkPi⟩ := nf mk hnamed
  have hsel : selectMethod e.platform s.vm cq.cls mk = .method mk := selectMethod_private hmethM ((Cond.privateMethod_at (mvP hZ wp (args := #[]))) mk methM hnamed hmethM)
  obtain ⟨vm₁, X₁, hst⟩ := X.invokevirtual hx hown (mvT hZ w1) hnamed hmethM hstM hkP hkPi hy (a := a) (cell := cq) (by rw [eT]; exact qa) qb hsel hmethM habM hkP hkPi (g := mkF m pc Ls (argsL.reverse ++ .ref a :: rest)) rfl (argsL := argsL) (rest := rest) (lenOf hpd hlen _ hsigM) rfl hd
  obtain ⟨v, ⟨T', L', k', n'⟩, X', ⟨L, hQ, rfl, rfl, rfl⟩, hgo⟩ := (backOf (W := W) (len := 3) hC hZ w4 w3 hf hl) m meth c ⟨T.setVm vm₁, locs, cells, slots⟩ (mkF m pc Ls rest) (.invokevirtual index) mk (.ref a :: argsL).toArray X₁ rfl hsz hd hW (X₁.named hnamed) ⟨rfl, eT, hc, hs⟩
  exact ⟨v, T', L, X', hQ, fun t k => ((hst _ fun acts => by rw [doInvoke_state]; exact Steps.refl _).trans hgo).trans k⟩
/-- invokevirtual of a method that a class above the one that the entry names declares -/
theorem c_virtUp {y' : MethodName} {C owner : String} (X : Stand p l e R s m args below meth c T locs cells slots) (hx : p.tables.exec = Jvm.exec) (hZ : Z.Warmed39 s.vm) (hown : s.vm.findClass own = some m.cls)
    (w1 : (Jvm.Cond.methodLink own index y').before a0 Z = true) (wm : (Jvm.Cond.sameMethod y'.cls owner y'.name y'.desc).before a0 Z = true) (wd : (Jvm.Cond.declares ⟨owner, y'.name, y'.desc⟩).before a0 Z = true) (ws : (Jvm.Cond.selects C y' y).before a0 Z = true) (w2 : (Jvm.Cond.instanceMethod y).before a0 Z = true) (w3 : (Jvm.Cond.initialized y.cls).before a0 Z = true) (w4 : (Jvm.Cond.code y bytes maxL ret).before a0 Z = true) (hy : owner ≠ "java/lang/invoke/MethodHandle" ∧ owner ≠ "java/lang/invoke/VarHandle")
    (hC : Ctr l Z y bytes maxL ret [] rm rm.cells rm.slots (.ref a :: argsL).toArray h Qc) (eT : T.heap = h) (E : Exa Z h a C) (hpd : parseMethodDescriptor y'.desc = some ⟨ps, r⟩) (hlen : argsL.length = ps.length) (hsz : Ls.size = c.maxLocals) (hW : 2 * 0 + (rest.map fun v => v.category).sum ≤ W)
    (hf : rm.frames + 1 ≤ R.frames) (hl : W + (maxL + 11) + rm.locals ≤ R.locals) (hc : cells + rm.cells ≤ R.cells) (hs : slots + rm.slots ≤ R.slots) (hd : decode c.code pc = .ok (.invokevirtual index, 3)) :
    ∃ (v : Option Value) (T' : State) (L : List Loc), Stand p l e R s m args below meth c T' (locs ++ L) (cells + rm.cells) (slots + rm.slots) ∧ Qc v T'.heap L ∧
      ∀ t, Steps p.tables e below (T'.setTop (mkF m (pc + 3) Ls (v.toList ++ rest))) t → Steps p.tables e below (T.setTop (mkF m pc Ls (argsL.reverse ++ .ref a :: rest))) t := by
  obtain ⟨cq, kq, qa, qb, qc⟩ := isOf hZ eT E
  obtain ⟨v, _, ⟨T', L', k', n'⟩, -, X', ⟨L, hQ, rfl, rfl, rfl⟩, st⟩ := X.virtualBackUp hx (x := y') (y := y) hown (mvT hZ w1) (mvT hZ wm) (mvT hZ wd) hy (mvT hZ ws) (mvT hZ w2) (backOf (W := W) hC hZ w4 w3 hf hl) qa qc (g := mkF m pc Ls (argsL.reverse ++ .ref a :: rest)) rfl hsz (Steps.refl _) (argsL := argsL) (rest := rest) (lenOf hpd hlen) rfl hW hd (fun _ _ => ⟨rfl, eT, hc, hs⟩)
  exact ⟨v, T', L, X', hQ, fun t k => st.trans k⟩
end Calls
end Own
/-! arrays by a function of the place -/
def upd (f : Nat → Value) (k : Nat) (v : Value) : Nat → Value := fun i => if i = k then v else f i
def lst (L : List Value) : Nat → Value := fun i => L.getD i .null
theorem upd_eq {f : Nat → Value} {k : Nat} {v : Value} : upd f k v k = v := if_pos rfl
theorem upd_ne {f : Nat → Value} {k i : Nat} {v : Value} (h : i ≠ k) : upd f k v i = f i := if_neg h
def AV (Z : State) (h : Heap) (a : Addr) (ty : FieldType) (n : Nat) (f : Nat → Value) : Prop := ∃ c : Cell, Arr Z h a c ty ∧ c.slots.size = n ∧ n < 2147483648 ∧ ∀ i, i < n → c.slots[i]? = some (f i)
section Arrays
variable {Z : State} {h h' : Heap} {a b : Addr} {ty : FieldType} {n k : Nat} {f g : Nat → Value} {v w : Value} {j : Int32} {ws : List Addr} {sl : Nat}
theorem AV.lt (A : AV Z h a ty n f) : a < h.size := by obtain ⟨c, A, -⟩ := A; exact A.lt
theorem AV.ext (A : AV Z h a ty n f) (E : Ext h h') : AV Z h' a ty n f := by obtain ⟨c, A, r⟩ := A; exact ⟨c, A.ext E, r⟩
theorem AV.other (A : AV Z h b ty n f) (W : Wr h h' a sl v) (q : b ≠ a) : AV Z h' b ty n f := by obtain ⟨c, A, r⟩ := A; exact ⟨c, A.other W q, r⟩
theorem AV.keep (A : AV Z h a ty n f) (K : Keep h h' ws) (q : a ∉ ws) : AV Z h' a ty n f := by obtain ⟨c, A, r⟩ := A; exact ⟨c, ⟨K.2.1 a c A.1 q, A.2⟩, r⟩
theorem AV.congr (A : AV Z h a ty n f) (q : ∀ i, i < n → f i = g i) : AV Z h a ty n g := by obtain ⟨c, A, r1, r2, r3⟩ := A; exact ⟨c, A, r1, r2, fun i hi => by rw [r3 i hi, q i hi]⟩
theorem AV.bound (A : AV Z h a ty n f) : n < 2147483648 := by obtain ⟨c, A, r1, r2, r3⟩ := A; exact r2
theorem clamp_of (hj : j.toInt = (k : Int)) : j.toNatClampNeg = k := by show j.toInt.toNat = k; rw [hj]; rfl
theorem in_of {c : Cell} (hj : j.toInt = (k : Int)) (hs : c.slots.size = n) (hk : k < n) : ¬ (j < 0 ∨ c.slots.size ≤ j.toNatClampNeg) := by
  rw [clamp_of hj, hs, Int32.lt_iff_toInt_lt, hj]; simp only [Int32.reduceToInt]; omega
theorem AV.new {cA : ClassId} {z : Int32} (A : Arr Z h a (newA cA ty z) ty) (hz : z.toInt = (n : Int)) : AV Z h a ty n (fun _ => defaultValue ty) := by
  have q := clamp_of hz
  have hb := Int32.toInt_lt z
  refine ⟨_, A, by rw [sz_new]; exact q, by omega, fun i hi => ?_⟩
  have hi' : i < z.toNatClampNeg := by rw [q]; exact hi
  simp [newA, hi']
theorem AV.at (A : AV Z h a ty n f) (hj : j.toInt = (k : Int)) (hk : k < n) : ∃ cl : Cell, Arr Z h a cl ty ∧ ¬ (j < 0 ∨ cl.slots.size ≤ j.toNatClampNeg) ∧ cl.slots[j.toNatClampNeg]? = some (f k) := by
  obtain ⟨c, A, r1, r2, r3⟩ := A
  exact ⟨c, A, in_of hj r1 hk, by rw [clamp_of hj]; exact r3 k hk⟩
theorem AV.set (A : AV Z h a ty n f) (hj : j.toInt = (k : Int)) (hk : k < n) (W : Wr h h' a j.toNatClampNeg v) : AV Z h' a ty n (upd f k v) := by
  obtain ⟨c, A, r1, r2, r3⟩ := A
  refine ⟨_, A.same W, by rw [sz_set]; exact r1, r2, fun i hi => ?_⟩
  rw [clamp_of hj]
  by_cases e : i = k
  · subst e; simp [Cell.setSlot, r1, hi, upd]
  · rw [upd_ne e, ← r3 i hi]; exact Array.getElem?_setIfInBounds_ne (Ne.symm e)
theorem AV.setL {L L' : List Value} (A : AV Z h a ty n (lst L)) (hj : j.toInt = (k : Int)) (hk : k < n) (W : Wr h h' a j.toNatClampNeg v) (hl : k < L.length) (e : L.set k v = L') : AV Z h' a ty n (lst L') := by
  subst e
  refine (A.set hj hk W).congr fun i hi => ?_
  by_cases q : i = k
  · subst q; simp [upd, lst, List.getD_eq_getElem?_getD, hl]
  · rw [upd_ne q]; simp [lst, List.getD_eq_getElem?_getD, List.getElem?_set_ne (Ne.symm q)]
theorem AV.newL {L : List Value} (A : AV Z h a ty n (fun _ => v)) (e : L = List.replicate n v) : AV Z h a ty n (lst L) := by
  subst e; refine A.congr fun i hi => ?_
  simp [lst, List.getD_eq_getElem?_getD, List.getElem?_replicate, hi]
theorem AV.len (A : AV Z h a ty n f) : ∃ cl : Cell, Arr Z h a cl ty ∧ cl.slots.size.toInt32 = Int32.ofNat n := by
  obtain ⟨c, A, r1, r2, r3⟩ := A; exact ⟨c, A, by rw [r1]⟩
theorem own_cls {cA : ClassId} {z : Int32} {ad : String} (A : Arr Z h a (newA cA ty z) ty) (E : Exa Z h a ad) : Z.vm.findClass ad = some cA := by
  obtain ⟨cell, k, e1, e2, -⟩ := E
  cases A.1.symm.trans e1
  exact e2
theorem own_sto {cA : ClassId} {cl : Cell} {ad C : String} {y : Addr} (A : Arr Z h a cl ty) (E : Exa Z h a ad) (hA : Z.vm.findClass ad = some cA) (O : Ovr Z cA C) (I : Ins Z h y C true) : Sto Z h a (.ref y) := by
  obtain ⟨cell, k, e1, e2, -⟩ := E
  cases A.1.symm.trans e1
  have q : cl.cls = cA := Option.some.inj (e2.symm.trans hA)
  exact Sto.of A (q ▸ O) I
theorem own_sta_keep {C n' d : String} (F : Sta Z h C n' d v) (K : Keep h h' []) : Sta Z h' C n' d v := by
  obtain ⟨cf, i, k, f, st, cell, h1, h2, h3, h4, h5, h6, h7⟩ := F
  exact ⟨cf, i, k, f, st, cell, h1, h2, h3, h4, K.2.1 _ _ h5 (fun q => nomatch q), h6, h7⟩
end Arrays
section ASteps
variable {p : Program} {l : Launch} {e : Env} {R : Room} {s : State} {m : MethodId} {args : Array Value} {below : List Frame} {meth : Method} {c : Code} {T : State} {locs : List Loc} {cells slots : Nat} {Z : State} {a0 : Array Value} {h : Heap} {a : Addr} {n k pc : Nat} {f : Nat → Value} {j : Int32} {Ls : Array Slot} {rest : List Value}
theorem a_iload (X : Stand p l e R s m args below meth c T locs cells slots) (hx : p.tables.exec = Jvm.exec) (hZ : Z.Warmed39 s.vm) (eT : T.heap = h) (A : AV Z h a .int n f) (hj : j.toInt = (k : Int)) (hk : k < n) {x : Int32} (hv : f k = .int x) (hd : decode c.code pc = .ok (.iaload, 1)) :
    ∀ t, Steps p.tables e below (T.setTop (mkF m (pc + 1) Ls (.int x :: rest))) t → Steps p.tables e below (T.setTop (mkF m pc Ls (.int j :: .ref a :: rest))) t := by
  obtain ⟨cl, A, hin, hat⟩ := A.at hj hk
  rw [hv] at hat
  exact X.iaload hx (j := j) (v := .int x) (by rw [eT]; exact A.1) (State.isArrayOf_alike hZ.alike A.2.1) A.2.2 hin hat (g := mkF m pc Ls (.int j :: .ref a :: rest)) rfl rfl hd
theorem a_cload (X : Stand p l e R s m args below meth c T locs cells slots) (hx : p.tables.exec = Jvm.exec) (hZ : Z.Warmed39 s.vm) (eT : T.heap = h) (A : AV Z h a .char n f) (hj : j.toInt = (k : Int)) (hk : k < n) {x : Int32} (hv : f k = .int x) (hd : decode c.code pc = .ok (.caload, 1)) :
    ∀ t, Steps p.tables e below (T.setTop (mkF m (pc + 1) Ls (.int x :: rest))) t → Steps p.tables e below (T.setTop (mkF m pc Ls (.int j :: .ref a :: rest))) t := by
  obtain ⟨cl, A, hin, hat⟩ := A.at hj hk
  rw [hv] at hat
  exact X.caload hx (j := j) (v := .int x) (by rw [eT]; exact A.1) (State.isArrayOf_alike hZ.alike A.2.1) A.2.2 hin hat (g := mkF m pc Ls (.int j :: .ref a :: rest)) rfl rfl hd
theorem a_bload (X : Stand p l e R s m args below meth c T locs cells slots) (hx : p.tables.exec = Jvm.exec) (hZ : Z.Warmed39 s.vm) (eT : T.heap = h) (A : AV Z h a .byte n f) (hj : j.toInt = (k : Int)) (hk : k < n) {x : Int32} (hv : f k = .int x) (hd : decode c.code pc = .ok (.baload, 1)) :
    ∀ t, Steps p.tables e below (T.setTop (mkF m (pc + 1) Ls (.int x :: rest))) t → Steps p.tables e below (T.setTop (mkF m pc Ls (.int j :: .ref a :: rest))) t := by
  obtain ⟨cl, A, hin, hat⟩ := A.at hj hk
  rw [hv] at hat
  exact X.baloadBytes hx (j := j) (v := .int x) (by rw [eT]; exact A.1) (State.isArrayOf_alike hZ.alike A.2.1) A.2.2 hin hat (g := mkF m pc Ls (.int j :: .ref a :: rest)) rfl rfl hd
theorem a_jload (X : Stand p l e R s m args below meth c T locs cells slots) (hx : p.tables.exec = Jvm.exec) (hZ : Z.Warmed39 s.vm) (eT : T.heap = h) (A : AV Z h a .long n f) (hj : j.toInt = (k : Int)) (hk : k < n) {x : Int64} (hv : f k = .long x) (hd : decode c.code pc = .ok (.laload, 1)) :
    ∀ t, Steps p.tables e below (T.setTop (mkF m (pc + 1) Ls (.long x :: rest))) t → Steps p.tables e below (T.setTop (mkF m pc Ls (.int j :: .ref a :: rest))) t := by
  obtain ⟨cl, A, hin, hat⟩ := A.at hj hk
  rw [hv] at hat
  exact X.laload hx (j := j) (v := .long x) (by rw [eT]; exact A.1) (State.isArrayOf_alike hZ.alike A.2.1) A.2.2 hin hat (g := mkF m pc Ls (.int j :: .ref a :: rest)) rfl rfl hd
theorem a_rload {ty : FieldType} (X : Stand p l e R s m args below meth c T locs cells slots) (hx : p.tables.exec = Jvm.exec) (hZ : Z.Warmed39 s.vm) (eT : T.heap = h) (A : AV Z h a ty n f) (ht : ty.isReference = true) (hj : j.toInt = (k : Int)) (hk : k < n) {v : Value} (hv : f k = v) (hd : decode c.code pc = .ok (.aaload, 1)) :
    ∀ t, Steps p.tables e below (T.setTop (mkF m (pc + 1) Ls (v :: rest))) t → Steps p.tables e below (T.setTop (mkF m pc Ls (.int j :: .ref a :: rest))) t := by
  obtain ⟨cl, A, hin, hat⟩ := A.at hj hk
  rw [hv] at hat
  exact X.aaload hx (j := j) (v := v) (by rw [eT]; exact A.1) (State.isArrayOf_alike hZ.alike A.2.1) ht A.2.2 hin hat (g := mkF m pc Ls (.int j :: .ref a :: rest)) rfl rfl hd
theorem a_len {ty : FieldType} (X : Stand p l e R s m args below meth c T locs cells slots) (hx : p.tables.exec = Jvm.exec) (hZ : Z.Warmed39 s.vm) (eT : T.heap = h) (A : AV Z h a ty n f) {z : Int32} (hz : z.toInt = (n : Int)) (hd : decode c.code pc = .ok (.arraylength, 1)) :
    ∀ t, Steps p.tables e below (T.setTop (mkF m (pc + 1) Ls (.int z :: rest))) t → Steps p.tables e below (T.setTop (mkF m pc Ls (.ref a :: rest))) t := by
  obtain ⟨cl, A, hin⟩ := A.len
  have hb := Int32.toInt_lt z
  have q : cl.slots.size.toInt32 = z := by rw [hin]; exact Int32.toInt_inj.mp (by rw [hz]; exact Int32.toInt_ofNat_of_lt (by omega))
  intro t k
  refine X.arraylength hx (by rw [eT]; exact A.1) (State.isArrayOf_alike hZ.alike A.2.1) (g := mkF m pc Ls (.ref a :: rest)) rfl rfl hd _ ?_
  rw [q]; exact k
end ASteps
theorem own_lt (i n : Nat) (h : i < 2147483648) (hn : n < 2147483648) : (Int32.ofNat i < Int32.ofNat n) ↔ i < n := by
  rw [Int32.lt_iff_toInt_lt, Int32.toInt_ofNat_of_lt (by omega), Int32.toInt_ofNat_of_lt (by omega)]; omega
theorem own_eq (i n : Nat) (h : i < 2147483648) (hn : n < 2147483648) : (Int32.ofNat i = Int32.ofNat n) ↔ i = n := by
  rw [← Int32.toInt_inj, Int32.toInt_ofNat_of_lt (by omega), Int32.toInt_ofNat_of_lt (by omega)]; omega
theorem own_nn (n : Nat) (h : n < 2147483648) : ¬ Int32.ofNat n < 0 := by
  rw [Int32.lt_iff_toInt_lt, Int32.toInt_ofNat_of_lt (by omega)]; simp only [Int32.reduceToInt]; omega
theorem own_sub (t k : Nat) (h : k ≤ t) (ht : t < 2147483648) : Int32.ofNat t - Int32.ofNat k = Int32.ofNat (t - k) := by
  have h1 := c_isub (Int32.ofNat t) (Int32.ofNat k); have h2 := rng32 (Int32.ofNat t - Int32.ofNat k)
  rw [Int32.toInt_ofNat_of_lt (by omega), Int32.toInt_ofNat_of_lt (by omega)] at h1
  refine Int32.toInt_inj.mp ?_
  rw [Int32.toInt_ofNat_of_lt (by omega)]; omega
theorem own_n64 {M : Nat} (h : M < 9223372036854775808) : (Int64.ofNat M).toInt = (M : Int) := Int64.toInt_ofNat_of_lt h
theorem own_i2l {n : Nat} (h : n < 2147483648) : (Int32.ofNat n).toInt64 = Int64.ofNat n := Int64.toInt_inj.mp (by rw [c_i2l, Int32.toInt_ofNat_of_lt (by omega), own_n64 (by omega)])
theorem own_l2i {n : Nat} (h : n < 2147483648) : (Int64.ofNat n).toInt32 = Int32.ofNat n := by
  have h1 := c_l2i (Int64.ofNat n); have h2 := rng32 (Int64.ofNat n).toInt32
  rw [own_n64 (by omega)] at h1
  refine Int32.toInt_inj.mp ?_
  rw [Int32.toInt_ofNat_of_lt (by omega)]; omega
theorem own_lmul {a b : Nat} : Int64.ofNat a * Int64.ofNat b = Int64.ofNat (a * b) := (Int64.ofNat_mul a b).symm
theorem own_prodb {W H M : Nat} (h1 : W ≤ M) (h2 : H ≤ M) : W * H ≤ M * M := Nat.mul_le_mul h1 h2
abbrev mn (a b : Int32) : Int32 := if b < a then b else a
abbrev mx (a b : Int32) : Int32 := if a < b then b else a
theorem own_min (a b : Nat) (ha : a < 2147483648) (hb : b < 2147483648) : mn (Int32.ofNat a) (Int32.ofNat b) = Int32.ofNat (min a b) := by
  have h := own_lt b a hb ha
  unfold mn
  by_cases q : b < a
  · rw [if_pos (h.mpr q), Nat.min_eq_right (by omega)]
  · rw [if_neg (mt h.mp q), Nat.min_eq_left (by omega)]
theorem own_max (a b : Nat) (ha : a < 2147483648) (hb : b < 2147483648) : mx (Int32.ofNat a) (Int32.ofNat b) = Int32.ofNat (max a b) := by
  have h := own_lt a b ha hb
  unfold mx
  by_cases q : a < b
  · rw [if_pos (h.mpr q), Nat.max_eq_right (by omega)]
  · rw [if_neg (mt h.mp q), Nat.max_eq_left (by omega)]
abbrev wf (x : Int32) : Int32 := (((x + (63 : Int32)).toUInt32 >>> ((6 : Int32) &&& 31).toUInt32).toInt32)
theorem own_wf (n : Nat) (h : n ≤ 64) : wf (Int32.ofNat n) = Int32.ofNat ((n + 63) / 64) := by
  have key : ∀ n : Fin 65, wf (Int32.ofNat n.1) = Int32.ofNat ((n.1 + 63) / 64) := by decide +kernel
  exact key ⟨n, by omega⟩
theorem own_side (x : Int32) : ∃ n : Nat, 1 ≤ n ∧ n ≤ 64 ∧ ((x &&& (63 : Int32)) + (1 : Int32)) = Int32.ofNat n := by
  have h1 := c_mask x 63 6 (by decide) (by decide)
  have h2 := c_iadd (x &&& 63) 1; have h3 := rng32 ((x &&& 63) + 1)
  simp only [Int32.reduceToInt] at *
  refine ⟨((x &&& 63) + 1).toInt.toNat, by omega, by omega, Int32.toInt_inj.mp ?_⟩
  rw [Int32.toInt_ofNat_of_lt (by omega)]; omega
theorem own_line (x : Int32) (n : Nat) (hn : 0 < n) (h9 : n < 1000) : ∃ i : Nat, i < n ∧ ((x &&& (2147483647 : Int32)) % Int32.ofNat n) = Int32.ofNat i := by
  have h1 := c_mask x 2147483647 31 (by decide) (by decide)
  have h2 := (c_irem (x &&& 2147483647) (Int32.ofNat n) n (Int32.toInt_ofNat_of_lt (by omega))).1 (by omega)
  have h3 := Int.emod_nonneg (x &&& 2147483647).toInt (b := (n : Int)) (by omega)
  have h4 := Int.emod_lt_of_pos (x &&& 2147483647).toInt (b := (n : Int)) (by omega)
  refine ⟨((x &&& 2147483647) % Int32.ofNat n).toInt.toNat, by omega, Int32.toInt_inj.mp ?_⟩
  rw [Int32.toInt_ofNat_of_lt (by omega)]; omega
theorem own_nz (n : Nat) (h : 0 < n) (h9 : n < 1000) : ¬ Int32.ofNat n = 0 := mt (own_eq n 0 (by omega) (by omega)).mp (by omega)
theorem own_nzL (n : Nat) (h : 0 < n) (h9 : n < 1000) : ¬ (Int32.ofNat n).toInt64 = 0 := fun q => by
  have := congrArg Int64.toInt q; rw [own_i2l (by omega), own_n64 (by omega)] at this; simp only [Int64.reduceToInt] at this; omega
abbrev z0 (x : Int32) : Int32 := (x ^^^ (-1 : Int32)) &&& (x - (1 : Int32))
abbrev us (i k : Int32) : Int32 := ((i.toUInt32 >>> (k &&& 31).toUInt32).toInt32)
abbrev i1 (i : Int32) : Int32 := if (65536 : Int32) < i then us i (16 : Int32) else i
abbrev n1 (i : Int32) : Int32 := if (65536 : Int32) < i then (17 : Int32) else (1 : Int32)
abbrev i2 (i : Int32) : Int32 := if (256 : Int32) < i then us i (8 : Int32) else i
abbrev i3 (i : Int32) : Int32 := if (16 : Int32) < i then us i (4 : Int32) else i
abbrev i4 (i : Int32) : Int32 := if (4 : Int32) < i then us i (2 : Int32) else i
abbrev n2 (n i : Int32) : Int32 := if (256 : Int32) < i then n + (8 : Int32) else n
abbrev n3 (n i : Int32) : Int32 := if (16 : Int32) < i then n + (4 : Int32) else n
abbrev n4 (n i : Int32) : Int32 := if (4 : Int32) < i then n + (2 : Int32) else n
abbrev ntzI (x : Int32) : Int32 := if (0 : Int32) < z0 x then n4 (n3 (n2 (n1 (z0 x)) (i1 (z0 x))) (i2 (i1 (z0 x)))) (i3 (i2 (i1 (z0 x)))) + us (i4 (i3 (i2 (i1 (z0 x))))) (1 : Int32) else z0 x &&& (32 : Int32)
abbrev ntz (x : Int64) : Int32 := if x.toInt32 = (0 : Int32) then (32 : Int32) + ntzI ((x.toUInt64 >>> ((32 : Int32) &&& 0x3f).toInt64.toUInt64).toInt64).toInt32 else ntzI x.toInt32
abbrev sh (x : Int32) : Int64 := (1 : Int64) <<< (x &&& 0x3f).toInt64
theorem ef_rmmn (m : MethodId) (x0 : Int32) (x1 : Int32) : entryFrame m #[(.int x0), (.int x1)] 2 = mkF m 0 #[.val (.int x0), .val (.int x1)] [] := by first | (simp [entryFrame, mkF, argsToLocals, Value.category]; done) | rfl
theorem pf_16 : plainFor (⟨"java/lang/Math", "min", "(II)I"⟩ : MethodName) = true := by decide +kernel
theorem d16_0 : decode jdk_29_method_69_code 0 = .ok (.iload_n 0, 1) := by decide +kernel
theorem d16_1 : decode jdk_29_method_69_code 1 = .ok (.iload_n 1, 1) := by decide +kernel
theorem d16_2 : decode jdk_29_method_69_code 2 = .ok (.if_icmp .gt 7, 3) := by decide +kernel
theorem d16_9 : decode jdk_29_method_69_code 9 = .ok (.iload_n 1, 1) := by decide +kernel
theorem d16_10 : decode jdk_29_method_69_code 10 = .ok (.ireturn, 1) := by decide +kernel
theorem d16_5 : decode jdk_29_method_69_code 5 = .ok (.iload_n 0, 1) := by decide +kernel
theorem d16_6 : decode jdk_29_method_69_code 6 = .ok (.goto 4, 3) := by decide +kernel
set_option maxRecDepth 65536 in
set_option maxHeartbeats 40000000 in
theorem rmmn (l : Launch) (Z : State) (a0 : Array Value) (hw : ∀ d ∈ tables_1, d.before a0 Z = true) (ws : List Jvm.Cond) (x y : Int32) (h0 : Heap) (n0 : Nat) (Z0 : n0 ≤ h0.size)  :
    Ctr l Z (⟨"java/lang/Math", "min", "(II)I"⟩ : MethodName) jdk_29_method_69_code 2 (some .int) ws ({ frames := 0, cells := 0, slots := 0, locals := 0 } : Room) 0 0 #[(.int x), (.int y)] h0 (fun v h L => v = some (.int (mn x y)) ∧ L = [] ∧ h = h0) := by
  refine Ctr.mk pf_16 fun p e s m below meth c T0 X0 C e0 => go_cast (ef_rmmn m x y) ?_
  have N0 := Fr.nil n0
  obtain ⟨hx, hZ, hby, hml, hown, hnm, hret, hlk⟩ := C
  show Go _ _ _ _ _ _ _ T0 (mkF m 0 #[.val (.int x), .val (.int y)] [])
  refine Go.step (fun tt kk => XS.iloadN X0.here hx rfl (hb hby d16_0) rfl kk) ?_
  show Go _ _ _ _ _ _ _ T0 (mkF m 1 #[.val (.int x), .val (.int y)] [(.int x)])
  refine Go.step (fun tt kk => XS.iloadN X0.here hx rfl (hb hby d16_1) rfl kk) ?_
  show Go _ _ _ _ _ _ _ T0 (mkF m 2 #[.val (.int x), .val (.int y)] [(.int y), (.int x)])
  by_cases c2_1 : y < x
  · refine Go.step (fun tt kk => XS.icmpYes X0.here hx rfl (pc0 := 2) (pc' := 9) rfl (hb hby d16_2) rfl (tlt c2_1).2.2.1 (by decide) (by decide) kk) ?_
    show Go _ _ _ _ _ _ _ T0 (mkF m 9 #[.val (.int x), .val (.int y)] [])
    refine Go.step (fun tt kk => XS.iloadN X0.here hx rfl (hb hby d16_9) rfl kk) ?_
    show Go _ _ _ _ _ _ _ T0 (mkF m 10 #[.val (.int x), .val (.int y)] [(.int y)])
    refine go_retI X0 hx hret hlk (hb hby d16_10) ?_ (by decide) (by decide)
    try rw [e0]
    exact ⟨congrArg (fun z => some (Value.int z)) (by simp only [mn, eq_true c2_1, if_true, if_false]), rfl, rfl⟩
  · refine Go.step (fun tt kk => XS.icmpNo X0.here hx rfl (hb hby d16_2) rfl (flt c2_1).2.2.1 kk) ?_
    show Go _ _ _ _ _ _ _ T0 (mkF m 5 #[.val (.int x), .val (.int y)] [])
    refine Go.step (fun tt kk => XS.iloadN X0.here hx rfl (hb hby d16_5) rfl kk) ?_
    show Go _ _ _ _ _ _ _ T0 (mkF m 6 #[.val (.int x), .val (.int y)] [(.int x)])
    refine Go.step (fun tt kk => XS.goto X0.here hx rfl (pc0 := 6) (pc' := 10) rfl (hb hby d16_6) (by decide) (by decide) kk) ?_
    show Go _ _ _ _ _ _ _ T0 (mkF m 10 #[.val (.int x), .val (.int y)] [(.int x)])
    refine go_retI X0 hx hret hlk (hb hby d16_10) ?_ (by decide) (by decide)
    try rw [e0]
    exact ⟨congrArg (fun z => some (Value.int z)) (by simp only [mn, eq_false c2_1, if_true, if_false]), rfl, rfl⟩
theorem ef_rmmx (m : MethodId) (x0 : Int32) (x1 : Int32) : entryFrame m #[(.int x0), (.int x1)] 2 = mkF m 0 #[.val (.int x0), .val (.int x1)] [] := by first | (simp [entryFrame, mkF, argsToLocals, Value.category]; done) | rfl
theorem pf_6 : plainFor (⟨"java/lang/Math", "max", "(II)I"⟩ : MethodName) = true := by decide +kernel
theorem d6_0 : decode jdk_29_method_65_code 0 = .ok (.iload_n 0, 1) := by decide +kernel
theorem d6_1 : decode jdk_29_method_65_code 1 = .ok (.iload_n 1, 1) := by decide +kernel
theorem d6_2 : decode jdk_29_method_65_code 2 = .ok (.if_icmp .lt 7, 3) := by decide +kernel
theorem d6_9 : decode jdk_29_method_65_code 9 = .ok (.iload_n 1, 1) := by decide +kernel
theorem d6_10 : decode jdk_29_method_65_code 10 = .ok (.ireturn, 1) := by decide +kernel
theorem d6_5 : decode jdk_29_method_65_code 5 = .ok (.iload_n 0, 1) := by decide +kernel
theorem d6_6 : decode jdk_29_method_65_code 6 = .ok (.goto 4, 3) := by decide +kernel
set_option maxRecDepth 65536 in
set_option maxHeartbeats 40000000 in
theorem rmmx (l : Launch) (Z : State) (a0 : Array Value) (hw : ∀ d ∈ tables_1, d.before a0 Z = true) (ws : List Jvm.Cond) (x y : Int32) (h0 : Heap) (n0 : Nat) (Z0 : n0 ≤ h0.size)  :
    Ctr l Z (⟨"java/lang/Math", "max", "(II)I"⟩ : MethodName) jdk_29_method_65_code 2 (some .int) ws ({ frames := 0, cells := 0, slots := 0, locals := 0 } : Room) 0 0 #[(.int x), (.int y)] h0 (fun v h L => v = some (.int (mx x y)) ∧ L = [] ∧ h = h0) := by
  refine Ctr.mk pf_6 fun p e s m below meth c T0 X0 C e0 => go_cast (ef_rmmx m x y) ?_
  have N0 := Fr.nil n0
  obtain ⟨hx, hZ, hby, hml, hown, hnm, hret, hlk⟩ := C
  show Go _ _ _ _ _ _ _ T0 (mkF m 0 #[.val (.int x), .val (.int y)] [])
  refine Go.step (fun tt kk => XS.iloadN X0.here hx rfl (hb hby d6_0) rfl kk) ?_
  show Go _ _ _ _ _ _ _ T0 (mkF m 1 #[.val (.int x), .val (.int y)] [(.int x)])
  refine Go.step (fun tt kk => XS.iloadN X0.here hx rfl (hb hby d6_1) rfl kk) ?_
  show Go _ _ _ _ _ _ _ T0 (mkF m 2 #[.val (.int x), .val (.int y)] [(.int y), (.int x)])
  by_cases c2_1 : x < y
  · refine Go.step (fun tt kk => XS.icmpYes X0.here hx rfl (pc0 := 2) (pc' := 9) rfl (hb hby d6_2) rfl (tlt c2_1).1 (by decide) (by decide) kk) ?_
    show Go _ _ _ _ _ _ _ T0 (mkF m 9 #[.val (.int x), .val (.int y)] [])
    refine Go.step (fun tt kk => XS.iloadN X0.here hx rfl (hb hby d6_9) rfl kk) ?_
    show Go _ _ _ _ _ _ _ T0 (mkF m 10 #[.val (.int x), .val (.int y)] [(.int y)])
    refine go_retI X0 hx hret hlk (hb hby d6_10) ?_ (by decide) (by decide)
    try rw [e0]
    exact ⟨congrArg (fun z => some (Value.int z)) (by simp only [mx, eq_true c2_1, if_true, if_false]), rfl, rfl⟩
  · refine Go.step (fun tt kk => XS.icmpNo X0.here hx rfl (hb hby d6_2) rfl (flt c2_1).1 kk) ?_
    show Go _ _ _ _ _ _ _ T0 (mkF m 5 #[.val (.int x), .val (.int y)] [])
    refine Go.step (fun tt kk => XS.iloadN X0.here hx rfl (hb hby d6_5) rfl kk) ?_
    show Go _ _ _ _ _ _ _ T0 (mkF m 6 #[.val (.int x), .val (.int y)] [(.int x)])
    refine Go.step (fun tt kk => XS.goto X0.here hx rfl (pc0 := 6) (pc' := 10) rfl (hb hby d6_6) (by decide) (by decide) kk) ?_
    show Go _ _ _ _ _ _ _ T0 (mkF m 10 #[.val (.int x), .val (.int y)] [(.int x)])
    refine go_retI X0 hx hret hlk (hb hby d6_10) ?_ (by decide) (by decide)
    try rw [e0]
    exact ⟨congrArg (fun z => some (Value.int z)) (by simp only [mx, eq_false c2_1, if_true, if_false]), rfl, rfl⟩
theorem ef_rmwf (m : MethodId) (x0 : Int32) : entryFrame m #[(.int x0)] 1 = mkF m 0 #[.val (.int x0)] [] := by first | (simp [entryFrame, mkF, argsToLocals, Value.category]; done) | rfl
theorem pn_0 : plainName "com/example/gridwright/gridwright/engine/Grid" = true := by first | (simp [plainName, overriddenIn]; done) | decide +kernel
theorem d7_0 : decode prog_58_method_13_code 0 = .ok (.iload_n 0, 1) := by decide +kernel
theorem d7_1 : decode prog_58_method_13_code 1 = .ok (.bipush 63, 2) := by decide +kernel
theorem d7_3 : decode prog_58_method_13_code 3 = .ok (.iadd, 1) := by decide +kernel
theorem d7_4 : decode prog_58_method_13_code 4 = .ok (.bipush 6, 2) := by decide +kernel
theorem d7_6 : decode prog_58_method_13_code 6 = .ok (.iushr, 1) := by decide +kernel
theorem d7_7 : decode prog_58_method_13_code 7 = .ok (.ireturn, 1) := by decide +kernel
set_option maxRecDepth 65536 in
set_option maxHeartbeats 40000000 in
theorem rmwf (l : Launch) (Z : State) (a0 : Array Value) (hw : ∀ d ∈ tables_1, d.before a0 Z = true) (ws : List Jvm.Cond) (x : Int32) (h0 : Heap) (n0 : Nat) (Z0 : n0 ≤ h0.size)  :
    Ctr l Z (⟨"com/example/gridwright/gridwright/engine/Grid", "wordsFor", "(I)I"⟩ : MethodName) prog_58_method_13_code 1 (some .int) ws ({ frames := 0, cells := 0, slots := 0, locals := 0 } : Room) 0 0 #[(.int x)] h0 (fun v h L => v = some (.int (wf x)) ∧ L = [] ∧ h = h0) := by
  refine Ctr.mk (plainFor_of_name pn_0) fun p e s m below meth c T0 X0 C e0 => go_cast (ef_rmwf m x) ?_
  have N0 := Fr.nil n0
  obtain ⟨hx, hZ, hby, hml, hown, hnm, hret, hlk⟩ := C
  show Go _ _ _ _ _ _ _ T0 (mkF m 0 #[.val (.int x)] [])
  refine Go.step (fun tt kk => XS.iloadN X0.here hx rfl (hb hby d7_0) rfl kk) ?_
  show Go _ _ _ _ _ _ _ T0 (mkF m 1 #[.val (.int x)] [(.int x)])
  refine Go.step (fun tt kk => XS.bipush X0.here hx rfl (hb hby d7_1) kk) ?_
  show Go _ _ _ _ _ _ _ T0 (mkF m 3 #[.val (.int x)] [(.int (63 : Int32)), (.int x)])
  refine Go.step (fun tt kk => XS.iadd X0.here hx rfl (hb hby d7_3) rfl kk) ?_
  show Go _ _ _ _ _ _ _ T0 (mkF m 4 #[.val (.int x)] [(.int (x + (63 : Int32)))])
  refine Go.step (fun tt kk => XS.bipush X0.here hx rfl (hb hby d7_4) kk) ?_
  show Go _ _ _ _ _ _ _ T0 (mkF m 6 #[.val (.int x)] [(.int (6 : Int32)), (.int (x + (63 : Int32)))])
  refine Go.step (fun tt kk => XS.iushr X0.here hx rfl (hb hby d7_6) rfl kk) ?_
  show Go _ _ _ _ _ _ _ T0 (mkF m 7 #[.val (.int x)] [(.int (((x + (63 : Int32)).toUInt32 >>> ((6 : Int32) &&& 31).toUInt32).toInt32))])
  refine go_retI X0 hx hret hlk (hb hby d7_7) ?_ (by decide) (by decide)
  try rw [e0]
  exact ⟨rfl, rfl, rfl⟩
theorem ef_rmme (m : MethodId) (x0 : Int32) (x1 : Int32) : entryFrame m #[(.int x0), (.int x1)] 4 = mkF m 0 #[.val (.int x0), .val (.int x1), .unset, .unset] [] := by first | (simp [entryFrame, mkF, argsToLocals, Value.category]; done) | rfl
theorem pf_5 : plainFor (⟨"java/lang/Math", "multiplyExact", "(II)I"⟩ : MethodName) = true := by decide +kernel
theorem d5_0 : decode jdk_29_method_28_code 0 = .ok (.iload_n 0, 1) := by decide +kernel
theorem d5_1 : decode jdk_29_method_28_code 1 = .ok (.i2l, 1) := by decide +kernel
theorem d5_2 : decode jdk_29_method_28_code 2 = .ok (.iload_n 1, 1) := by decide +kernel
theorem d5_3 : decode jdk_29_method_28_code 3 = .ok (.i2l, 1) := by decide +kernel
theorem d5_4 : decode jdk_29_method_28_code 4 = .ok (.lmul, 1) := by decide +kernel
theorem d5_5 : decode jdk_29_method_28_code 5 = .ok (.lstore_n 2, 1) := by decide +kernel
theorem d5_6 : decode jdk_29_method_28_code 6 = .ok (.lload_n 2, 1) := by decide +kernel
theorem d5_7 : decode jdk_29_method_28_code 7 = .ok (.l2i, 1) := by decide +kernel
theorem d5_8 : decode jdk_29_method_28_code 8 = .ok (.i2l, 1) := by decide +kernel
theorem d5_9 : decode jdk_29_method_28_code 9 = .ok (.lload_n 2, 1) := by decide +kernel
theorem d5_10 : decode jdk_29_method_28_code 10 = .ok (.lcmp, 1) := by decide +kernel
theorem d5_11 : decode jdk_29_method_28_code 11 = .ok (.ifCond .eq 13, 3) := by decide +kernel
theorem d5_24 : decode jdk_29_method_28_code 24 = .ok (.lload_n 2, 1) := by decide +kernel
theorem d5_25 : decode jdk_29_method_28_code 25 = .ok (.l2i, 1) := by decide +kernel
theorem d5_26 : decode jdk_29_method_28_code 26 = .ok (.ireturn, 1) := by decide +kernel
set_option maxRecDepth 65536 in
set_option maxHeartbeats 40000000 in
theorem rmme (l : Launch) (Z : State) (a0 : Array Value) (hw : ∀ d ∈ tables_1, d.before a0 Z = true) (ws : List Jvm.Cond) (W H : Nat) (h0 : Heap) (n0 : Nat) (Z0 : n0 ≤ h0.size) (hW : W ≤ 64) (hH : H ≤ 64) :
    Ctr l Z (⟨"java/lang/Math", "multiplyExact", "(II)I"⟩ : MethodName) jdk_29_method_28_code 4 (some .int) ws ({ frames := 0, cells := 0, slots := 0, locals := 0 } : Room) 0 0 #[(.int (Int32.ofNat W)), (.int (Int32.ofNat H))] h0 (fun v h L => v = some (.int (Int32.ofNat (W * H))) ∧ L = [] ∧ h = h0) := by
  refine Ctr.mk pf_5 fun p e s m below meth c T0 X0 C e0 => go_cast (ef_rmme m (Int32.ofNat W) (Int32.ofNat H)) ?_
  have N0 := Fr.nil n0
  obtain ⟨hx, hZ, hby, hml, hown, hnm, hret, hlk⟩ := C
  have hWH := own_prodb hW hH
  show Go _ _ _ _ _ _ _ T0 (mkF m 0 #[.val (.int (Int32.ofNat W)), .val (.int (Int32.ofNat H)), .unset, .unset] [])
  refine Go.step (fun tt kk => XS.iloadN X0.here hx rfl (hb hby d5_0) rfl kk) ?_
  show Go _ _ _ _ _ _ _ T0 (mkF m 1 #[.val (.int (Int32.ofNat W)), .val (.int (Int32.ofNat H)), .unset, .unset] [(.int (Int32.ofNat W))])
  refine Go.step (fun tt kk => XS.i2l X0.here hx rfl (hb hby d5_1) rfl kk) ?_
  show Go _ _ _ _ _ _ _ T0 (mkF m 2 #[.val (.int (Int32.ofNat W)), .val (.int (Int32.ofNat H)), .unset, .unset] [(.long ((Int32.ofNat W).toInt64))])
  refine Go.step (fun tt kk => XS.iloadN X0.here hx rfl (hb hby d5_2) rfl kk) ?_
  show Go _ _ _ _ _ _ _ T0 (mkF m 3 #[.val (.int (Int32.ofNat W)), .val (.int (Int32.ofNat H)), .unset, .unset] [(.int (Int32.ofNat H)), (.long ((Int32.ofNat W).toInt64))])
  refine Go.step (fun tt kk => XS.i2l X0.here hx rfl (hb hby d5_3) rfl kk) ?_
  show Go _ _ _ _ _ _ _ T0 (mkF m 4 #[.val (.int (Int32.ofNat W)), .val (.int (Int32.ofNat H)), .unset, .unset] [(.long ((Int32.ofNat H).toInt64)), (.long ((Int32.ofNat W).toInt64))])
  refine Go.step (fun tt kk => XS.lmul X0.here hx rfl (hb hby d5_4) rfl kk) ?_
  show Go _ _ _ _ _ _ _ T0 (mkF m 5 #[.val (.int (Int32.ofNat W)), .val (.int (Int32.ofNat H)), .unset, .unset] [(.long (((Int32.ofNat W).toInt64) * ((Int32.ofNat H).toInt64)))])
  rw [own_i2l (by omega), own_i2l (by omega), own_lmul]
  show Go _ _ _ _ _ _ _ T0 (mkF m 5 #[.val (.int (Int32.ofNat W)), .val (.int (Int32.ofNat H)), .unset, .unset] [(.long (Int64.ofNat (W * H)))])
  refine Go.step (fun tt kk => XS.lstoreN X0.here hx rfl (hb hby d5_5) rfl (l' := #[.val (.int (Int32.ofNat W)), .val (.int (Int32.ofNat H)), .val (.long (Int64.ofNat (W * H))), .second]) rfl kk) ?_
  show Go _ _ _ _ _ _ _ T0 (mkF m 6 #[.val (.int (Int32.ofNat W)), .val (.int (Int32.ofNat H)), .val (.long (Int64.ofNat (W * H))), .second] [])
  refine Go.step (fun tt kk => XS.lloadN X0.here hx rfl (hb hby d5_6) rfl kk) ?_
  show Go _ _ _ _ _ _ _ T0 (mkF m 7 #[.val (.int (Int32.ofNat W)), .val (.int (Int32.ofNat H)), .val (.long (Int64.ofNat (W * H))), .second] [(.long (Int64.ofNat (W * H)))])
  refine Go.step (fun tt kk => XS.l2i X0.here hx rfl (hb hby d5_7) rfl kk) ?_
  show Go _ _ _ _ _ _ _ T0 (mkF m 8 #[.val (.int (Int32.ofNat W)), .val (.int (Int32.ofNat H)), .val (.long (Int64.ofNat (W * H))), .second] [(.int ((Int64.ofNat (W * H)).toInt32))])
  refine Go.step (fun tt kk => XS.i2l X0.here hx rfl (hb hby d5_8) rfl kk) ?_
  show Go _ _ _ _ _ _ _ T0 (mkF m 9 #[.val (.int (Int32.ofNat W)), .val (.int (Int32.ofNat H)), .val (.long (Int64.ofNat (W * H))), .second] [(.long (((Int64.ofNat (W * H)).toInt32).toInt64))])
  refine Go.step (fun tt kk => XS.lloadN X0.here hx rfl (hb hby d5_9) rfl kk) ?_
  show Go _ _ _ _ _ _ _ T0 (mkF m 10 #[.val (.int (Int32.ofNat W)), .val (.int (Int32.ofNat H)), .val (.long (Int64.ofNat (W * H))), .second] [(.long (Int64.ofNat (W * H))), (.long (((Int64.ofNat (W * H)).toInt32).toInt64))])
  refine Go.step (fun tt kk => XS.lcmp X0.here hx rfl (hb hby d5_10) rfl kk) ?_
  show Go _ _ _ _ _ _ _ T0 (mkF m 11 #[.val (.int (Int32.ofNat W)), .val (.int (Int32.ofNat H)), .val (.long (Int64.ofNat (W * H))), .second] [(.int (lcmpW (((Int64.ofNat (W * H)).toInt32).toInt64) (Int64.ofNat (W * H))))])
  refine Go.step (fun tt kk => XS.ifYes X0.here hx rfl (pc0 := 11) (pc' := 24) rfl (hb hby d5_11) rfl ((if0 _ _).trans (teq ((lw_eq _ _).mpr (by rw [own_l2i (by omega), own_i2l (by omega)]))).1) (by decide) (by decide) kk) ?_
  show Go _ _ _ _ _ _ _ T0 (mkF m 24 #[.val (.int (Int32.ofNat W)), .val (.int (Int32.ofNat H)), .val (.long (Int64.ofNat (W * H))), .second] [])
  refine Go.step (fun tt kk => XS.lloadN X0.here hx rfl (hb hby d5_24) rfl kk) ?_
  show Go _ _ _ _ _ _ _ T0 (mkF m 25 #[.val (.int (Int32.ofNat W)), .val (.int (Int32.ofNat H)), .val (.long (Int64.ofNat (W * H))), .second] [(.long (Int64.ofNat (W * H)))])
  refine Go.step (fun tt kk => XS.l2i X0.here hx rfl (hb hby d5_25) rfl kk) ?_
  show Go _ _ _ _ _ _ _ T0 (mkF m 26 #[.val (.int (Int32.ofNat W)), .val (.int (Int32.ofNat H)), .val (.long (Int64.ofNat (W * H))), .second] [(.int ((Int64.ofNat (W * H)).toInt32))])
  refine go_retI X0 hx hret hlk (hb hby d5_26) ?_ (by decide) (by decide)
  try rw [e0]
  exact ⟨congrArg (fun z => some (Value.int z)) (own_l2i (by omega)), rfl, rfl⟩
theorem ef_rmGi (m : MethodId) (x0 : Addr) (x1 : Int32) (x2 : Int32) : entryFrame m #[(.ref x0), (.int x1), (.int x2)] 4 = mkF m 0 #[.val (.ref x0), .val (.int x1), .val (.int x2), .unset] [] := by first | (simp [entryFrame, mkF, argsToLocals, Value.category]; done) | rfl
theorem d4_0 : decode prog_58_method_1_code 0 = .ok (.aload_n 0, 1) := by decide +kernel
theorem d4_1 : decode prog_58_method_1_code 1 = .ok (.invokespecial 1, 3) := by decide +kernel
theorem d4_4 : decode prog_58_method_1_code 4 = .ok (.iload_n 1, 1) := by decide +kernel
theorem d4_5 : decode prog_58_method_1_code 5 = .ok (.iconst 1, 1) := by decide +kernel
theorem d4_6 : decode prog_58_method_1_code 6 = .ok (.if_icmp .lt 8, 3) := by decide +kernel
theorem d4_9 : decode prog_58_method_1_code 9 = .ok (.iload_n 2, 1) := by decide +kernel
theorem d4_10 : decode prog_58_method_1_code 10 = .ok (.iconst 1, 1) := by decide +kernel
theorem d4_11 : decode prog_58_method_1_code 11 = .ok (.if_icmp .ge 18, 3) := by decide +kernel
theorem d4_29 : decode prog_58_method_1_code 29 = .ok (.aload_n 0, 1) := by decide +kernel
theorem d4_30 : decode prog_58_method_1_code 30 = .ok (.iload_n 1, 1) := by decide +kernel
theorem d4_31 : decode prog_58_method_1_code 31 = .ok (.putfield 16, 3) := by decide +kernel
theorem d4_34 : decode prog_58_method_1_code 34 = .ok (.aload_n 0, 1) := by decide +kernel
theorem d4_35 : decode prog_58_method_1_code 35 = .ok (.iload_n 2, 1) := by decide +kernel
theorem d4_36 : decode prog_58_method_1_code 36 = .ok (.putfield 22, 3) := by decide +kernel
theorem d4_39 : decode prog_58_method_1_code 39 = .ok (.aload_n 0, 1) := by decide +kernel
theorem d4_40 : decode prog_58_method_1_code 40 = .ok (.iload_n 1, 1) := by decide +kernel
theorem d4_41 : decode prog_58_method_1_code 41 = .ok (.iload_n 2, 1) := by decide +kernel
theorem pd_0 : parseMethodDescriptor "(II)I" = some ⟨[.int, .int], some .int⟩ := by decide +kernel
theorem d4_42 : decode prog_58_method_1_code 42 = .ok (.invokestatic 25, 3) := by decide +kernel
theorem d4_45 : decode prog_58_method_1_code 45 = .ok (.newarray .byte, 2) := by decide +kernel
theorem d4_47 : decode prog_58_method_1_code 47 = .ok (.putfield 31, 3) := by decide +kernel
theorem d4_50 : decode prog_58_method_1_code 50 = .ok (.aload_n 0, 1) := by decide +kernel
theorem d4_51 : decode prog_58_method_1_code 51 = .ok (.getfield 31, 3) := by decide +kernel
theorem d4_54 : decode prog_58_method_1_code 54 = .ok (.arraylength, 1) := by decide +kernel
theorem d4_55 : decode prog_58_method_1_code 55 = .ok (.i2l, 1) := by decide +kernel
theorem d4_56 : decode prog_58_method_1_code 56 = .ok (.iload_n 1, 1) := by decide +kernel
theorem d4_57 : decode prog_58_method_1_code 57 = .ok (.i2l, 1) := by decide +kernel
theorem d4_58 : decode prog_58_method_1_code 58 = .ok (.lmul, 1) := by decide +kernel
theorem d4_59 : decode prog_58_method_1_code 59 = .ok (.ldc2_w 35, 3) := by decide +kernel
theorem d4_62 : decode prog_58_method_1_code 62 = .ok (.lcmp, 1) := by decide +kernel
theorem d4_63 : decode prog_58_method_1_code 63 = .ok (.ifCond .ge 7, 3) := by decide +kernel
theorem d4_71 : decode prog_58_method_1_code 71 = .ok (.istore_n 3, 1) := by decide +kernel
theorem d4_72 : decode prog_58_method_1_code 72 = .ok (.aload_n 0, 1) := by decide +kernel
theorem d4_73 : decode prog_58_method_1_code 73 = .ok (.iload_n 3, 1) := by decide +kernel
theorem d4_92 : decode prog_58_method_1_code 92 = .ok (.putfield 37, 3) := by decide +kernel
theorem d4_95 : decode prog_58_method_1_code 95 = .ok (.aload_n 0, 1) := by decide +kernel
theorem d4_96 : decode prog_58_method_1_code 96 = .ok (.iload_n 1, 1) := by decide +kernel
theorem d4_97 : decode prog_58_method_1_code 97 = .ok (.iload_n 2, 1) := by decide +kernel
theorem d4_98 : decode prog_58_method_1_code 98 = .ok (.invokestatic 41, 3) := by decide +kernel
theorem pd_1 : parseMethodDescriptor "(I)I" = some ⟨[.int], some .int⟩ := by decide +kernel
theorem d4_101 : decode prog_58_method_1_code 101 = .ok (.invokestatic 44, 3) := by decide +kernel
theorem d4_104 : decode prog_58_method_1_code 104 = .ok (.putfield 48, 3) := by decide +kernel
theorem d4_107 : decode prog_58_method_1_code 107 = .ok (.aload_n 0, 1) := by decide +kernel
theorem d4_108 : decode prog_58_method_1_code 108 = .ok (.iload_n 1, 1) := by decide +kernel
theorem d4_109 : decode prog_58_method_1_code 109 = .ok (.iload_n 2, 1) := by decide +kernel
theorem d4_110 : decode prog_58_method_1_code 110 = .ok (.iadd, 1) := by decide +kernel
theorem d4_111 : decode prog_58_method_1_code 111 = .ok (.aload_n 0, 1) := by decide +kernel
theorem d4_112 : decode prog_58_method_1_code 112 = .ok (.getfield 48, 3) := by decide +kernel
theorem d4_115 : decode prog_58_method_1_code 115 = .ok (.imul, 1) := by decide +kernel
theorem d4_116 : decode prog_58_method_1_code 116 = .ok (.newarray .long, 2) := by decide +kernel
theorem d4_118 : decode prog_58_method_1_code 118 = .ok (.putfield 51, 3) := by decide +kernel
theorem d4_121 : decode prog_58_method_1_code 121 = .ok (.aload_n 0, 1) := by decide +kernel
theorem d4_122 : decode prog_58_method_1_code 122 = .ok (.iload_n 1, 1) := by decide +kernel
theorem d4_123 : decode prog_58_method_1_code 123 = .ok (.iload_n 2, 1) := by decide +kernel
theorem d4_124 : decode prog_58_method_1_code 124 = .ok (.iadd, 1) := by decide +kernel
theorem d4_125 : decode prog_58_method_1_code 125 = .ok (.aload_n 0, 1) := by decide +kernel
theorem d4_126 : decode prog_58_method_1_code 126 = .ok (.getfield 48, 3) := by decide +kernel
theorem d4_129 : decode prog_58_method_1_code 129 = .ok (.imul, 1) := by decide +kernel
theorem d4_130 : decode prog_58_method_1_code 130 = .ok (.newarray .long, 2) := by decide +kernel
theorem d4_132 : decode prog_58_method_1_code 132 = .ok (.putfield 55, 3) := by decide +kernel
theorem d4_135 : decode prog_58_method_1_code 135 = .ok (.return_, 1) := by decide +kernel
theorem d4_74 : decode prog_58_method_1_code 74 = .ok (.ifCond .eq 17, 3) := by decide +kernel
theorem d4_77 : decode prog_58_method_1_code 77 = .ok (.ldc2_w 35, 3) := by decide +kernel
theorem d4_80 : decode prog_58_method_1_code 80 = .ok (.iload_n 1, 1) := by decide +kernel
theorem d4_81 : decode prog_58_method_1_code 81 = .ok (.i2l, 1) := by decide +kernel
theorem d4_82 : decode prog_58_method_1_code 82 = .ok (.ladd, 1) := by decide +kernel
theorem d4_83 : decode prog_58_method_1_code 83 = .ok (.lconst 1, 1) := by decide +kernel
theorem d4_84 : decode prog_58_method_1_code 84 = .ok (.lsub, 1) := by decide +kernel
theorem d4_85 : decode prog_58_method_1_code 85 = .ok (.iload_n 1, 1) := by decide +kernel
theorem d4_86 : decode prog_58_method_1_code 86 = .ok (.i2l, 1) := by decide +kernel
theorem d4_87 : decode prog_58_method_1_code 87 = .ok (.ldiv, 1) := by decide +kernel
theorem d4_88 : decode prog_58_method_1_code 88 = .ok (.goto 4, 3) := by decide +kernel
theorem d4_91 : decode prog_58_method_1_code 91 = .ok (.lconst 0, 1) := by decide +kernel
theorem d4_66 : decode prog_58_method_1_code 66 = .ok (.iconst 1, 1) := by decide +kernel
theorem d4_67 : decode prog_58_method_1_code 67 = .ok (.goto 4, 3) := by decide +kernel
theorem d4_70 : decode prog_58_method_1_code 70 = .ok (.iconst 0, 1) := by decide +kernel
set_option maxRecDepth 65536 in
set_option maxHeartbeats 40000000 in
theorem rmGi (l : Launch) (Z : State) (a0 : Array Value) (hw : ∀ d ∈ tables_1, d.before a0 Z = true) (ws : List Jvm.Cond) (a : Addr) (W H : Nat) (h0 : Heap) (n0 : Nat) (Z0 : n0 ≤ h0.size) (hW1 : 1 ≤ W) (hW : W ≤ 64) (hH1 : 1 ≤ H) (hH : H ≤ 64) (E_a : Exa Z h0 a "com/example/gridwright/gridwright/engine/Grid") (F_0 : Fld Z h0 a "com/example/gridwright/gridwright/engine/Grid" "width" "I" (.int (0 : Int32))) (F_1 : Fld Z h0 a "com/example/gridwright/gridwright/engine/Grid" "height" "I" (.int (0 : Int32))) (F_2 : Fld Z h0 a "com/example/gridwright/gridwright/engine/Grid" "cells" "[B" .null) (F_3 : Fld Z h0 a "com/example/gridwright/gridwright/engine/Grid" "rowFactor" "J" (.long (0 : Int64))) (F_4 : Fld Z h0 a "com/example/gridwright/gridwright/engine/Grid" "stride" "I" (.int (0 : Int32))) (F_5 : Fld Z h0 a "com/example/gridwright/gridwright/engine/Grid" "filled" "[J" .null) (F_6 : Fld Z h0 a "com/example/gridwright/gridwright/engine/Grid" "empty" "[J" .null) (g_a : n0 ≤ a) :
    Ctr l Z (⟨"com/example/gridwright/gridwright/engine/Grid", "<init>", "(II)V"⟩ : MethodName) prog_58_method_1_code 4 none ws ({ frames := 1, cells := 3, slots := 4352, locals := 16 } : Room) 3 4352 #[(.ref a), (.int (Int32.ofNat W)), (.int (Int32.ofNat H))] h0 (fun v h L => v = none ∧ Fr n0 L ∧ Keep h0 h [a] ∧ Exa Z h a "com/example/gridwright/gridwright/engine/Grid" ∧ Fld Z h a "com/example/gridwright/gridwright/engine/Grid" "width" "I" (.int (Int32.ofNat W)) ∧ Fld Z h a "com/example/gridwright/gridwright/engine/Grid" "height" "I" (.int (Int32.ofNat H))) := by
  refine Ctr.mk (plainFor_of_name pn_0) fun p e s m below meth c T0 X0 C e0 => go_cast (ef_rmGi m a (Int32.ofNat W) (Int32.ofNat H)) ?_
  have N0 := Fr.nil n0
  obtain ⟨hx, hZ, hby, hml, hown, hnm, hret, hlk⟩ := C
  obtain ⟨hI, eI⟩ : ∃ z, z = h0 := ⟨_, rfl⟩
  have K0 : Keep hI h0 [a] := by rw [eI]; exact Keep.refl _ _
  have hWH := own_prodb hW hH
  have hS : (max W H + 63) / 64 ≤ 1 := by omega
  have hSS : (W + H) * ((max W H + 63) / 64) ≤ 128 * 1 := Nat.mul_le_mul (by omega) hS
  show Go _ _ _ _ _ _ _ T0 (mkF m 0 #[.val (.ref a), .val (.int (Int32.ofNat W)), .val (.int (Int32.ofNat H)), .unset] [])
  refine Go.step (fun tt kk => XS.aloadN X0.here hx rfl (hb hby d4_0) rfl rfl kk) ?_
  show Go _ _ _ _ _ _ _ T0 (mkF m 1 #[.val (.ref a), .val (.int (Int32.ofNat W)), .val (.int (Int32.ofNat H)), .unset] [(.ref a)])
  obtain ⟨T1, X1, e1, st1⟩ := initO X0 hx hZ hown (hw _ (List.mem_of_getElem? (i := 30) rfl)) (hw _ (List.mem_of_getElem? (i := 13) rfl)) (hw _ (List.mem_of_getElem? (i := 14) rfl)) e0 (g := (mkF m 1 #[.val (.ref a), .val (.int (Int32.ofNat W)), .val (.int (Int32.ofNat H)), .unset] [(.ref a)])) rfl (by rw [hml]; rfl) rfl (hb hby d4_1) (by decide) (W := 0) (by show 2 * 0 + _ ≤ _; exact Nat.le_of_eq rfl) (by decide)
  refine Go.step (st1) ?_
  show Go _ _ _ _ _ _ _ T1 (mkF m 4 #[.val (.ref a), .val (.int (Int32.ofNat W)), .val (.int (Int32.ofNat H)), .unset] [])
  refine Go.step (fun tt kk => XS.iloadN X1.here hx rfl (hb hby d4_4) rfl kk) ?_
  show Go _ _ _ _ _ _ _ T1 (mkF m 5 #[.val (.ref a), .val (.int (Int32.ofNat W)), .val (.int (Int32.ofNat H)), .unset] [(.int (Int32.ofNat W))])
  refine Go.step (fun tt kk => XS.iconst X1.here hx rfl (hb hby d4_5) kk) ?_
  show Go _ _ _ _ _ _ _ T1 (mkF m 6 #[.val (.ref a), .val (.int (Int32.ofNat W)), .val (.int (Int32.ofNat H)), .unset] [(.int (1 : Int32)), (.int (Int32.ofNat W))])
  refine Go.step (fun tt kk => XS.icmpNo X1.here hx rfl (hb hby d4_6) rfl (flt (mt (own_lt W 1 (by omega) (by omega)).mp (by omega))).1 kk) ?_
  show Go _ _ _ _ _ _ _ T1 (mkF m 9 #[.val (.ref a), .val (.int (Int32.ofNat W)), .val (.int (Int32.ofNat H)), .unset] [])
  refine Go.step (fun tt kk => XS.iloadN X1.here hx rfl (hb hby d4_9) rfl kk) ?_
  show Go _ _ _ _ _ _ _ T1 (mkF m 10 #[.val (.ref a), .val (.int (Int32.ofNat W)), .val (.int (Int32.ofNat H)), .unset] [(.int (Int32.ofNat H))])
  refine Go.step (fun tt kk => XS.iconst X1.here hx rfl (hb hby d4_10) kk) ?_
  show Go _ _ _ _ _ _ _ T1 (mkF m 11 #[.val (.ref a), .val (.int (Int32.ofNat W)), .val (.int (Int32.ofNat H)), .unset] [(.int (1 : Int32)), (.int (Int32.ofNat H))])
  refine Go.step (fun tt kk => XS.icmpYes X1.here hx rfl (pc0 := 11) (pc' := 29) rfl (hb hby d4_11) rfl (flt (mt (own_lt H 1 (by omega) (by omega)).mp (by omega))).2.1 (by decide) (by decide) kk) ?_
  show Go _ _ _ _ _ _ _ T1 (mkF m 29 #[.val (.ref a), .val (.int (Int32.ofNat W)), .val (.int (Int32.ofNat H)), .unset] [])
  refine Go.step (fun tt kk => XS.aloadN X1.here hx rfl (hb hby d4_29) rfl rfl kk) ?_
  show Go _ _ _ _ _ _ _ T1 (mkF m 30 #[.val (.ref a), .val (.int (Int32.ofNat W)), .val (.int (Int32.ofNat H)), .unset] [(.ref a)])
  refine Go.step (fun tt kk => XS.iloadN X1.here hx rfl (hb hby d4_30) rfl kk) ?_
  show Go _ _ _ _ _ _ _ T1 (mkF m 31 #[.val (.ref a), .val (.int (Int32.ofNat W)), .val (.int (Int32.ofNat H)), .unset] [(.int (Int32.ofNat W)), (.ref a)])
  obtain ⟨T2, h2, X2, e2, W2, st2⟩ := putF X1 hx hZ hown (host := "") (Or.inl (hw _ (List.mem_of_getElem? (i := 31) rfl))) Via.refl e1 F_0 E_a (Or.inr ⟨(hw _ (List.mem_of_getElem? (i := 32) rfl)), rfl, hnm⟩) (hw _ (List.mem_of_getElem? (i := 25) rfl)) (ty := .int) (by decide) rfl rfl (g := (mkF m 31 #[.val (.ref a), .val (.int (Int32.ofNat W)), .val (.int (Int32.ofNat H)), .unset] [(.int (Int32.ofNat W)), (.ref a)])) rfl rfl (hb hby d4_31)
  have F2 := Fld.same W2 F_0
  have N2 := Fr.snoc X2 N0 g_a
  have Z2 : n0 ≤ h2.size := Nat.le_trans Z0 (Keep.of_wr W2).1
  have K2 : Keep hI h2 [a] := K0.wr W2 (Or.inl (List.mem_of_getElem? (i := 0) rfl))
  refine Go.step (st2) ?_
  show Go _ _ _ _ _ _ _ T2 (mkF m 34 #[.val (.ref a), .val (.int (Int32.ofNat W)), .val (.int (Int32.ofNat H)), .unset] [])
  refine Go.step (fun tt kk => XS.aloadN X2.here hx rfl (hb hby d4_34) rfl rfl kk) ?_
  show Go _ _ _ _ _ _ _ T2 (mkF m 35 #[.val (.ref a), .val (.int (Int32.ofNat W)), .val (.int (Int32.ofNat H)), .unset] [(.ref a)])
  refine Go.step (fun tt kk => XS.iloadN X2.here hx rfl (hb hby d4_35) rfl kk) ?_
  show Go _ _ _ _ _ _ _ T2 (mkF m 36 #[.val (.ref a), .val (.int (Int32.ofNat W)), .val (.int (Int32.ofNat H)), .unset] [(.int (Int32.ofNat H)), (.ref a)])
  have f4 := (Fld.other W2 F_1 (Or.inr (slot_ne (Or.inr (hw _ (List.mem_of_getElem? (i := 34) rfl))) (Or.inr (hw _ (List.mem_of_getElem? (i := 32) rfl))) (by decide) (t := .int) (t' := .int) (by decide) (by decide))))
  have f5 := (Exa.wr W2 E_a)
  obtain ⟨T3, h3, X3, e3, W3, st3⟩ := putF X2 hx hZ hown (host := "") (Or.inl (hw _ (List.mem_of_getElem? (i := 33) rfl))) Via.refl e2 f4 f5 (Or.inr ⟨(hw _ (List.mem_of_getElem? (i := 34) rfl)), rfl, hnm⟩) (hw _ (List.mem_of_getElem? (i := 25) rfl)) (ty := .int) (by decide) rfl rfl (g := (mkF m 36 #[.val (.ref a), .val (.int (Int32.ofNat W)), .val (.int (Int32.ofNat H)), .unset] [(.int (Int32.ofNat H)), (.ref a)])) rfl rfl (hb hby d4_36)
  have F3 := Fld.same W3 f4
  have N3 := Fr.snoc X3 N2 g_a
  have Z3 : n0 ≤ h3.size := Nat.le_trans Z2 (Keep.of_wr W3).1
  have K3 : Keep hI h3 [a] := K2.wr W3 (Or.inl (List.mem_of_getElem? (i := 0) rfl))
  refine Go.step (st3) ?_
  show Go _ _ _ _ _ _ _ T3 (mkF m 39 #[.val (.ref a), .val (.int (Int32.ofNat W)), .val (.int (Int32.ofNat H)), .unset] [])
  refine Go.step (fun tt kk => XS.aloadN X3.here hx rfl (hb hby d4_39) rfl rfl kk) ?_
  show Go _ _ _ _ _ _ _ T3 (mkF m 40 #[.val (.ref a), .val (.int (Int32.ofNat W)), .val (.int (Int32.ofNat H)), .unset] [(.ref a)])
  refine Go.step (fun tt kk => XS.iloadN X3.here hx rfl (hb hby d4_40) rfl kk) ?_
  show Go _ _ _ _ _ _ _ T3 (mkF m 41 #[.val (.ref a), .val (.int (Int32.ofNat W)), .val (.int (Int32.ofNat H)), .unset] [(.int (Int32.ofNat W)), (.ref a)])
  refine Go.step (fun tt kk => XS.iloadN X3.here hx rfl (hb hby d4_41) rfl kk) ?_
  show Go _ _ _ _ _ _ _ T3 (mkF m 42 #[.val (.ref a), .val (.int (Int32.ofNat W)), .val (.int (Int32.ofNat H)), .unset] [(.int (Int32.ofNat H)), (.int (Int32.ofNat W)), (.ref a)])
  obtain ⟨v6, T6, L6, X6, q6, st6⟩ := c_static X3 hx hZ hown (y := (⟨"java/lang/Math", "multiplyExact", "(II)I"⟩ : MethodName)) (hw _ (List.mem_of_getElem? (i := 35) rfl)) (hw _ (List.mem_of_getElem? (i := 36) rfl)) (hw _ (List.mem_of_getElem? (i := 37) rfl)) (hw _ (List.mem_of_getElem? (i := 38) rfl)) (by decide) (argsL := [(.int (Int32.ofNat W)), (.int (Int32.ofNat H))]) (rest := [(.ref a)]) (rmme l Z a0 hw [] W H h3 n0 Z3 hW hH) e3 pd_0 rfl (by rw [hml]; rfl) (W := 1) (by show 2 * 0 + _ ≤ _; exact Nat.le_of_eq rfl) (by decide) (by decide) (by decide) (by decide) (hb hby d4_42) (Ls := #[.val (.ref a), .val (.int (Int32.ofNat W)), .val (.int (Int32.ofNat H)), .unset])
  obtain ⟨rfl, rfl, e6⟩ := q6
  have N6 := Fr.app N3 (Fr.nil n0)
  refine Go.step (st6) ?_
  show Go _ _ _ _ _ _ _ T6 (mkF m 45 #[.val (.ref a), .val (.int (Int32.ofNat W)), .val (.int (Int32.ofNat H)), .unset] [(.int (Int32.ofNat (W * H))), (.ref a)])
  obtain ⟨T7, h7, k7, X7, e7, E7, A7, EA7, st7⟩ := newPE X6 hx hZ (hw _ (List.mem_of_getElem? (i := 39) rfl)) e6 (g := (mkF m 45 #[.val (.ref a), .val (.int (Int32.ofNat W)), .val (.int (Int32.ofNat H)), .unset] [(.int (Int32.ofNat (W * H))), (.ref a)])) rfl (hb hby d4_45) rfl (own_nn (W * H) (by omega)) (cap := 4096) (by rw [clamp_of (k := W * H) (Int32.toInt_ofNat_of_lt (by omega))]; omega) (by decide) (by decide) (by decide) (ad := "[B") rfl
  obtain ⟨b7, g7⟩ : ∃ z, z = h3.size := ⟨_, rfl⟩
  rw [← g7] at A7 EA7 st7
  have f8 := (Exa.wr W3 f5)
  have ne_a_b7 : a ≠ b7 := Nat.ne_of_lt (Nat.lt_of_lt_of_le f8.lt (Nat.le_of_eq g7.symm))
  have gn_b7 : n0 ≤ b7 := Nat.le_trans Z3 (Nat.le_of_eq g7.symm)
  have sz_b7 : hI.size ≤ b7 := Nat.le_trans K3.1 (Nat.le_of_eq g7.symm)
  have Z7 : n0 ≤ h7.size := Nat.le_trans Z3 E7.1
  have K7 : Keep hI h7 [a] := K3.ext E7
  have V7 : AV Z h7 b7 .byte (W * H) (fun _ => (.int (0 : Int32))) := AV.new A7 (Int32.toInt_ofNat_of_lt (by omega))
  refine Go.step (st7) ?_
  show Go _ _ _ _ _ _ _ T7 (mkF m 47 #[.val (.ref a), .val (.int (Int32.ofNat W)), .val (.int (Int32.ofNat H)), .unset] [(.ref b7), (.ref a)])
  have f10 := (Fld.ext E7 (Fld.other W3 (Fld.other W2 F_2 (Or.inr (slot_ne (Or.inr (hw _ (List.mem_of_getElem? (i := 41) rfl))) (Or.inr (hw _ (List.mem_of_getElem? (i := 32) rfl))) (by decide) (t := (.array .byte)) (t' := .int) (by decide) (by decide)))) (Or.inr (slot_ne (Or.inr (hw _ (List.mem_of_getElem? (i := 41) rfl))) (Or.inr (hw _ (List.mem_of_getElem? (i := 34) rfl))) (by decide) (t := (.array .byte)) (t' := .int) (by decide) (by decide)))))
  have f11 := (Exa.ext E7 f8)
  obtain ⟨T9, h9, X9, e9, W9, st9⟩ := putF X7 hx hZ hown (host := "") (Or.inl (hw _ (List.mem_of_getElem? (i := 40) rfl))) Via.refl e7 f10 f11 (Or.inr ⟨(hw _ (List.mem_of_getElem? (i := 41) rfl)), rfl, hnm⟩) (hw _ (List.mem_of_getElem? (i := 25) rfl)) (ty := (.array .byte)) (by decide) rfl rfl (g := (mkF m 47 #[.val (.ref a), .val (.int (Int32.ofNat W)), .val (.int (Int32.ofNat H)), .unset] [(.ref b7), (.ref a)])) rfl rfl (hb hby d4_47)
  have F9 := Fld.same W9 f10
  have N9 := Fr.snoc X9 N6 g_a
  have Z9 : n0 ≤ h9.size := Nat.le_trans Z7 (Keep.of_wr W9).1
  have K9 : Keep hI h9 [a] := K7.wr W9 (Or.inl (List.mem_of_getElem? (i := 0) rfl))
  refine Go.step (st9) ?_
  show Go _ _ _ _ _ _ _ T9 (mkF m 50 #[.val (.ref a), .val (.int (Int32.ofNat W)), .val (.int (Int32.ofNat H)), .unset] [])
  refine Go.step (fun tt kk => XS.aloadN X9.here hx rfl (hb hby d4_50) rfl rfl kk) ?_
  show Go _ _ _ _ _ _ _ T9 (mkF m 51 #[.val (.ref a), .val (.int (Int32.ofNat W)), .val (.int (Int32.ofNat H)), .unset] [(.ref a)])
  obtain ⟨T12, X12, e12, st12⟩ := getF X9 hx hZ hown (host := "") (Or.inl (hw _ (List.mem_of_getElem? (i := 40) rfl))) Via.refl e9 F9 (g := (mkF m 51 #[.val (.ref a), .val (.int (Int32.ofNat W)), .val (.int (Int32.ofNat H)), .unset] [(.ref a)])) rfl rfl (hb hby d4_51)
  refine Go.step (st12) ?_
  show Go _ _ _ _ _ _ _ T12 (mkF m 54 #[.val (.ref a), .val (.int (Int32.ofNat W)), .val (.int (Int32.ofNat H)), .unset] [(.ref b7)])
  have f13 := (V7.other W9 (Ne.symm ne_a_b7))
  refine Go.step (a_len X12 hx hZ e12 f13 (z := (Int32.ofNat (W * H))) (Int32.toInt_ofNat_of_lt (by omega)) (hb hby d4_54)) ?_
  show Go _ _ _ _ _ _ _ T12 (mkF m 55 #[.val (.ref a), .val (.int (Int32.ofNat W)), .val (.int (Int32.ofNat H)), .unset] [(.int (Int32.ofNat (W * H)))])
  refine Go.step (fun tt kk => XS.i2l X12.here hx rfl (hb hby d4_55) rfl kk) ?_
  show Go _ _ _ _ _ _ _ T12 (mkF m 56 #[.val (.ref a), .val (.int (Int32.ofNat W)), .val (.int (Int32.ofNat H)), .unset] [(.long ((Int32.ofNat (W * H)).toInt64))])
  refine Go.step (fun tt kk => XS.iloadN X12.here hx rfl (hb hby d4_56) rfl kk) ?_
  show Go _ _ _ _ _ _ _ T12 (mkF m 57 #[.val (.ref a), .val (.int (Int32.ofNat W)), .val (.int (Int32.ofNat H)), .unset] [(.int (Int32.ofNat W)), (.long ((Int32.ofNat (W * H)).toInt64))])
  refine Go.step (fun tt kk => XS.i2l X12.here hx rfl (hb hby d4_57) rfl kk) ?_
  show Go _ _ _ _ _ _ _ T12 (mkF m 58 #[.val (.ref a), .val (.int (Int32.ofNat W)), .val (.int (Int32.ofNat H)), .unset] [(.long ((Int32.ofNat W).toInt64)), (.long ((Int32.ofNat (W * H)).toInt64))])
  refine Go.step (fun tt kk => XS.lmul X12.here hx rfl (hb hby d4_58) rfl kk) ?_
  show Go _ _ _ _ _ _ _ T12 (mkF m 59 #[.val (.ref a), .val (.int (Int32.ofNat W)), .val (.int (Int32.ofNat H)), .unset] [(.long (((Int32.ofNat (W * H)).toInt64) * ((Int32.ofNat W).toInt64)))])
  refine Go.step (X12.ldc2Long hx hown (mvT hZ (hw _ (List.mem_of_getElem? (i := 42) rfl))) (g := (mkF m 59 #[.val (.ref a), .val (.int (Int32.ofNat W)), .val (.int (Int32.ofNat H)), .unset] [(.long (((Int32.ofNat (W * H)).toInt64) * ((Int32.ofNat W).toInt64)))])) rfl (hb hby d4_59)) ?_
  show Go _ _ _ _ _ _ _ T12 (mkF m 62 #[.val (.ref a), .val (.int (Int32.ofNat W)), .val (.int (Int32.ofNat H)), .unset] [(.long (1099511627776 : Int64)), (.long (((Int32.ofNat (W * H)).toInt64) * ((Int32.ofNat W).toInt64)))])
  refine Go.step (fun tt kk => XS.lcmp X12.here hx rfl (hb hby d4_62) rfl kk) ?_
  show Go _ _ _ _ _ _ _ T12 (mkF m 63 #[.val (.ref a), .val (.int (Int32.ofNat W)), .val (.int (Int32.ofNat H)), .unset] [(.int (lcmpW (((Int32.ofNat (W * H)).toInt64) * ((Int32.ofNat W).toInt64)) (1099511627776 : Int64)))])
  obtain ⟨q63, hq63⟩ : ∃ q : Bool, q = true ↔ ((((Int32.ofNat (W * H)).toInt64) * ((Int32.ofNat W).toInt64)) < (1099511627776 : Int64)) := ⟨decide ((((Int32.ofNat (W * H)).toInt64) * ((Int32.ofNat W).toInt64)) < (1099511627776 : Int64)), decide_eq_true_iff⟩
  have j63 : Go p e s below 3 4352 (fun v h L => v = none ∧ Fr n0 L ∧ Keep h0 h [a] ∧ Exa Z h a "com/example/gridwright/gridwright/engine/Grid" ∧ Fld Z h a "com/example/gridwright/gridwright/engine/Grid" "width" "I" (.int (Int32.ofNat W)) ∧ Fld Z h a "com/example/gridwright/gridwright/engine/Grid" "height" "I" (.int (Int32.ofNat H))) T12 (mkF m 71 #[.val (.ref a), .val (.int (Int32.ofNat W)), .val (.int (Int32.ofNat H)), .unset] [(.int (bi (q63 = true)))]) := by
    refine Go.step (fun tt kk => XS.istoreN X12.here hx rfl (hb hby d4_71) rfl (l' := #[.val (.ref a), .val (.int (Int32.ofNat W)), .val (.int (Int32.ofNat H)), .val (.int (bi (q63 = true)))]) rfl kk) ?_
    show Go _ _ _ _ _ _ _ T12 (mkF m 72 #[.val (.ref a), .val (.int (Int32.ofNat W)), .val (.int (Int32.ofNat H)), .val (.int (bi (q63 = true)))] [])
    refine Go.step (fun tt kk => XS.aloadN X12.here hx rfl (hb hby d4_72) rfl rfl kk) ?_
    show Go _ _ _ _ _ _ _ T12 (mkF m 73 #[.val (.ref a), .val (.int (Int32.ofNat W)), .val (.int (Int32.ofNat H)), .val (.int (bi (q63 = true)))] [(.ref a)])
    refine Go.step (fun tt kk => XS.iloadN X12.here hx rfl (hb hby d4_73) rfl kk) ?_
    show Go _ _ _ _ _ _ _ T12 (mkF m 74 #[.val (.ref a), .val (.int (Int32.ofNat W)), .val (.int (Int32.ofNat H)), .val (.int (bi (q63 = true)))] [(.int (bi (q63 = true))), (.ref a)])
    have j74 : ∀ z : Int64, Go p e s below 3 4352 (fun v h L => v = none ∧ Fr n0 L ∧ Keep h0 h [a] ∧ Exa Z h a "com/example/gridwright/gridwright/engine/Grid" ∧ Fld Z h a "com/example/gridwright/gridwright/engine/Grid" "width" "I" (.int (Int32.ofNat W)) ∧ Fld Z h a "com/example/gridwright/gridwright/engine/Grid" "height" "I" (.int (Int32.ofNat H))) T12 (mkF m 92 #[.val (.ref a), .val (.int (Int32.ofNat W)), .val (.int (Int32.ofNat H)), .val (.int (bi (q63 = true)))] [(.long z), (.ref a)]) := by
      intro z
      have f15 := (Fld.other W9 (Fld.ext E7 (Fld.other W3 (Fld.other W2 F_3 (Or.inr (slot_ne (Or.inr (hw _ (List.mem_of_getElem? (i := 44) rfl))) (Or.inr (hw _ (List.mem_of_getElem? (i := 32) rfl))) (by decide) (t := .long) (t' := .int) (by decide) (by decide)))) (Or.inr (slot_ne (Or.inr (hw _ (List.mem_of_getElem? (i := 44) rfl))) (Or.inr (hw _ (List.mem_of_getElem? (i := 34) rfl))) (by decide) (t := .long) (t' := .int) (by decide) (by decide))))) (Or.inr (slot_ne (Or.inr (hw _ (List.mem_of_getElem? (i := 44) rfl))) (Or.inr (hw _ (List.mem_of_getElem? (i := 41) rfl))) (by decide) (t := .long) (t' := (.array .byte)) (by decide) (by decide))))
      have f16 := (Exa.wr W9 f11)
      obtain ⟨T14, h14, X14, e14, W14, st14⟩ := putF X12 hx hZ hown (host := "") (Or.inl (hw _ (List.mem_of_getElem? (i := 43) rfl))) Via.refl e12 f15 f16 (Or.inr ⟨(hw _ (List.mem_of_getElem? (i := 44) rfl)), rfl, hnm⟩) (hw _ (List.mem_of_getElem? (i := 25) rfl)) (ty := .long) (by decide) rfl rfl (g := (mkF m 92 #[.val (.ref a), .val (.int (Int32.ofNat W)), .val (.int (Int32.ofNat H)), .val (.int (bi (q63 = true)))] [(.long z), (.ref a)])) rfl rfl (hb hby d4_92)
      have F14 := Fld.same W14 f15
      have N14 := Fr.snoc X14 N9 g_a
      have Z14 : n0 ≤ h14.size := Nat.le_trans Z9 (Keep.of_wr W14).1
      have K14 : Keep hI h14 [a] := K9.wr W14 (Or.inl (List.mem_of_getElem? (i := 0) rfl))
      refine Go.step (st14) ?_
      show Go _ _ _ _ _ _ _ T14 (mkF m 95 #[.val (.ref a), .val (.int (Int32.ofNat W)), .val (.int (Int32.ofNat H)), .val (.int (bi (q63 = true)))] [])
      refine Go.step (fun tt kk => XS.aloadN X14.here hx rfl (hb hby d4_95) rfl rfl kk) ?_
      show Go _ _ _ _ _ _ _ T14 (mkF m 96 #[.val (.ref a), .val (.int (Int32.ofNat W)), .val (.int (Int32.ofNat H)), .val (.int (bi (q63 = true)))] [(.ref a)])
      refine Go.step (fun tt kk => XS.iloadN X14.here hx rfl (hb hby d4_96) rfl kk) ?_
      show Go _ _ _ _ _ _ _ T14 (mkF m 97 #[.val (.ref a), .val (.int (Int32.ofNat W)), .val (.int (Int32.ofNat H)), .val (.int (bi (q63 = true)))] [(.int (Int32.ofNat W)), (.ref a)])
      refine Go.step (fun tt kk => XS.iloadN X14.here hx rfl (hb hby d4_97) rfl kk) ?_
      show Go _ _ _ _ _ _ _ T14 (mkF m 98 #[.val (.ref a), .val (.int (Int32.ofNat W)), .val (.int (Int32.ofNat H)), .val (.int (bi (q63 = true)))] [(.int (Int32.ofNat H)), (.int (Int32.ofNat W)), (.ref a)])
      obtain ⟨v17, T17, L17, X17, q17, st17⟩ := c_static X14 hx hZ hown (y := (⟨"java/lang/Math", "max", "(II)I"⟩ : MethodName)) (hw _ (List.mem_of_getElem? (i := 45) rfl)) (hw _ (List.mem_of_getElem? (i := 46) rfl)) (hw _ (List.mem_of_getElem? (i := 37) rfl)) (hw _ (List.mem_of_getElem? (i := 47) rfl)) (by decide) (argsL := [(.int (Int32.ofNat W)), (.int (Int32.ofNat H))]) (rest := [(.ref a)]) (rmmx l Z a0 hw [] (Int32.ofNat W) (Int32.ofNat H) h14 n0 Z14) e14 pd_0 rfl (by rw [hml]; rfl) (W := 1) (by show 2 * 0 + _ ≤ _; exact Nat.le_of_eq rfl) (by decide) (by decide) (by decide) (by decide) (hb hby d4_98) (Ls := #[.val (.ref a), .val (.int (Int32.ofNat W)), .val (.int (Int32.ofNat H)), .val (.int (bi (q63 = true)))])
      obtain ⟨rfl, rfl, e17⟩ := q17
      have N17 := Fr.app N14 (Fr.nil n0)
      refine Go.step (st17) ?_
      show Go _ _ _ _ _ _ _ T17 (mkF m 101 #[.val (.ref a), .val (.int (Int32.ofNat W)), .val (.int (Int32.ofNat H)), .val (.int (bi (q63 = true)))] [(.int (mx (Int32.ofNat W) (Int32.ofNat H))), (.ref a)])
      rw [own_max _ _ (by omega) (by omega)]
      show Go _ _ _ _ _ _ _ T17 (mkF m 101 #[.val (.ref a), .val (.int (Int32.ofNat W)), .val (.int (Int32.ofNat H)), .val (.int (bi (q63 = true)))] [(.int (Int32.ofNat (max W H))), (.ref a)])
      obtain ⟨v18, T18, L18, X18, q18, st18⟩ := c_static X17 hx hZ hown (y := (⟨"com/example/gridwright/gridwright/engine/Grid", "wordsFor", "(I)I"⟩ : MethodName)) (hw _ (List.mem_of_getElem? (i := 48) rfl)) (hw _ (List.mem_of_getElem? (i := 49) rfl)) (hw _ (List.mem_of_getElem? (i := 26) rfl)) (hw _ (List.mem_of_getElem? (i := 50) rfl)) (by decide) (argsL := [(.int (Int32.ofNat (max W H)))]) (rest := [(.ref a)]) (rmwf l Z a0 hw [] (Int32.ofNat (max W H)) h14 n0 Z14) e17 pd_1 rfl (by rw [hml]; rfl) (W := 1) (by show 2 * 0 + _ ≤ _; exact Nat.le_of_eq rfl) (by decide) (by decide) (by decide) (by decide) (hb hby d4_101) (Ls := #[.val (.ref a), .val (.int (Int32.ofNat W)), .val (.int (Int32.ofNat H)), .val (.int (bi (q63 = true)))])
      obtain ⟨rfl, rfl, e18⟩ := q18
      have N18 := Fr.app N17 (Fr.nil n0)
      refine Go.step (st18) ?_
      show Go _ _ _ _ _ _ _ T18 (mkF m 104 #[.val (.ref a), .val (.int (Int32.ofNat W)), .val (.int (Int32.ofNat H)), .val (.int (bi (q63 = true)))] [(.int (wf (Int32.ofNat (max W H)))), (.ref a)])
      rw [own_wf _ (by omega)]
      show Go _ _ _ _ _ _ _ T18 (mkF m 104 #[.val (.ref a), .val (.int (Int32.ofNat W)), .val (.int (Int32.ofNat H)), .val (.int (bi (q63 = true)))] [(.int (Int32.ofNat ((max W H + 63) / 64))), (.ref a)])
      have f20 := (Fld.other W14 (Fld.other W9 (Fld.ext E7 (Fld.other W3 (Fld.other W2 F_4 (Or.inr (slot_ne (Or.inr (hw _ (List.mem_of_getElem? (i := 52) rfl))) (Or.inr (hw _ (List.mem_of_getElem? (i := 32) rfl))) (by decide) (t := .int) (t' := .int) (by decide) (by decide)))) (Or.inr (slot_ne (Or.inr (hw _ (List.mem_of_getElem? (i := 52) rfl))) (Or.inr (hw _ (List.mem_of_getElem? (i := 34) rfl))) (by decide) (t := .int) (t' := .int) (by decide) (by decide))))) (Or.inr (slot_ne (Or.inr (hw _ (List.mem_of_getElem? (i := 52) rfl))) (Or.inr (hw _ (List.mem_of_getElem? (i := 41) rfl))) (by decide) (t := .int) (t' := (.array .byte)) (by decide) (by decide)))) (Or.inr (slot_ne (Or.inr (hw _ (List.mem_of_getElem? (i := 52) rfl))) (Or.inr (hw _ (List.mem_of_getElem? (i := 44) rfl))) (by decide) (t := .int) (t' := .long) (by decide) (by decide))))
      have f21 := (Exa.wr W14 f16)
      obtain ⟨T19, h19, X19, e19, W19, st19⟩ := putF X18 hx hZ hown (host := "") (Or.inl (hw _ (List.mem_of_getElem? (i := 51) rfl))) Via.refl e18 f20 f21 (Or.inr ⟨(hw _ (List.mem_of_getElem? (i := 52) rfl)), rfl, hnm⟩) (hw _ (List.mem_of_getElem? (i := 25) rfl)) (ty := .int) (by decide) rfl rfl (g := (mkF m 104 #[.val (.ref a), .val (.int (Int32.ofNat W)), .val (.int (Int32.ofNat H)), .val (.int (bi (q63 = true)))] [(.int (Int32.ofNat ((max W H + 63) / 64))), (.ref a)])) rfl rfl (hb hby d4_104)
      have F19 := Fld.same W19 f20
      have N19 := Fr.snoc X19 N18 g_a
      have Z19 : n0 ≤ h19.size := Nat.le_trans Z14 (Keep.of_wr W19).1
      have K19 : Keep hI h19 [a] := K14.wr W19 (Or.inl (List.mem_of_getElem? (i := 0) rfl))
      refine Go.step (st19) ?_
      show Go _ _ _ _ _ _ _ T19 (mkF m 107 #[.val (.ref a), .val (.int (Int32.ofNat W)), .val (.int (Int32.ofNat H)), .val (.int (bi (q63 = true)))] [])
      refine Go.step (fun tt kk => XS.aloadN X19.here hx rfl (hb hby d4_107) rfl rfl kk) ?_
      show Go _ _ _ _ _ _ _ T19 (mkF m 108 #[.val (.ref a), .val (.int (Int32.ofNat W)), .val (.int (Int32.ofNat H)), .val (.int (bi (q63 = true)))] [(.ref a)])
      refine Go.step (fun tt kk => XS.iloadN X19.here hx rfl (hb hby d4_108) rfl kk) ?_
      show Go _ _ _ _ _ _ _ T19 (mkF m 109 #[.val (.ref a), .val (.int (Int32.ofNat W)), .val (.int (Int32.ofNat H)), .val (.int (bi (q63 = true)))] [(.int (Int32.ofNat W)), (.ref a)])
      refine Go.step (fun tt kk => XS.iloadN X19.here hx rfl (hb hby d4_109) rfl kk) ?_
      show Go _ _ _ _ _ _ _ T19 (mkF m 110 #[.val (.ref a), .val (.int (Int32.ofNat W)), .val (.int (Int32.ofNat H)), .val (.int (bi (q63 = true)))] [(.int (Int32.ofNat H)), (.int (Int32.ofNat W)), (.ref a)])
      refine Go.step (fun tt kk => XS.iadd X19.here hx rfl (hb hby d4_110) rfl kk) ?_
      show Go _ _ _ _ _ _ _ T19 (mkF m 111 #[.val (.ref a), .val (.int (Int32.ofNat W)), .val (.int (Int32.ofNat H)), .val (.int (bi (q63 = true)))] [(.int ((Int32.ofNat W) + (Int32.ofNat H))), (.ref a)])
      refine Go.step (fun tt kk => XS.aloadN X19.here hx rfl (hb hby d4_111) rfl rfl kk) ?_
      show Go _ _ _ _ _ _ _ T19 (mkF m 112 #[.val (.ref a), .val (.int (Int32.ofNat W)), .val (.int (Int32.ofNat H)), .val (.int (bi (q63 = true)))] [(.ref a), (.int ((Int32.ofNat W) + (Int32.ofNat H))), (.ref a)])
      obtain ⟨T22, X22, e22, st22⟩ := getF X19 hx hZ hown (host := "") (Or.inl (hw _ (List.mem_of_getElem? (i := 51) rfl))) Via.refl e19 F19 (g := (mkF m 112 #[.val (.ref a), .val (.int (Int32.ofNat W)), .val (.int (Int32.ofNat H)), .val (.int (bi (q63 = true)))] [(.ref a), (.int ((Int32.ofNat W) + (Int32.ofNat H))), (.ref a)])) rfl rfl (hb hby d4_112)
      refine Go.step (st22) ?_
      show Go _ _ _ _ _ _ _ T22 (mkF m 115 #[.val (.ref a), .val (.int (Int32.ofNat W)), .val (.int (Int32.ofNat H)), .val (.int (bi (q63 = true)))] [(.int (Int32.ofNat ((max W H + 63) / 64))), (.int ((Int32.ofNat W) + (Int32.ofNat H))), (.ref a)])
      refine Go.step (fun tt kk => XS.imul X22.here hx rfl (hb hby d4_115) rfl kk) ?_
      show Go _ _ _ _ _ _ _ T22 (mkF m 116 #[.val (.ref a), .val (.int (Int32.ofNat W)), .val (.int (Int32.ofNat H)), .val (.int (bi (q63 = true)))] [(.int (((Int32.ofNat W) + (Int32.ofNat H)) * (Int32.ofNat ((max W H + 63) / 64)))), (.ref a)])
      rw [← Int32.ofNat_add, ← Int32.ofNat_mul]
      show Go _ _ _ _ _ _ _ T22 (mkF m 116 #[.val (.ref a), .val (.int (Int32.ofNat W)), .val (.int (Int32.ofNat H)), .val (.int (bi (q63 = true)))] [(.int (Int32.ofNat ((W + H) * ((max W H + 63) / 64)))), (.ref a)])
      obtain ⟨T23, h23, k23, X23, e23, E23, A23, EA23, st23⟩ := newPE X22 hx hZ (hw _ (List.mem_of_getElem? (i := 19) rfl)) e22 (g := (mkF m 116 #[.val (.ref a), .val (.int (Int32.ofNat W)), .val (.int (Int32.ofNat H)), .val (.int (bi (q63 = true)))] [(.int (Int32.ofNat ((W + H) * ((max W H + 63) / 64)))), (.ref a)])) rfl (hb hby d4_116) rfl (own_nn ((W + H) * ((max W H + 63) / 64)) (by omega)) (cap := 128) (by rw [clamp_of (k := ((W + H) * ((max W H + 63) / 64))) (Int32.toInt_ofNat_of_lt (by omega))]; omega) (by decide) (by decide) (by decide) (ad := "[J") rfl
      obtain ⟨b23, g23⟩ : ∃ z, z = h19.size := ⟨_, rfl⟩
      rw [← g23] at A23 EA23 st23
      have f24 := (Exa.wr W19 f21)
      have ne_a_b23 : a ≠ b23 := Nat.ne_of_lt (Nat.lt_of_lt_of_le f24.lt (Nat.le_of_eq g23.symm))
      have f25 := (Exa.wr W19 (Exa.wr W14 (Exa.wr W9 EA7)))
      have ne_b7_b23 : b7 ≠ b23 := Nat.ne_of_lt (Nat.lt_of_lt_of_le f25.lt (Nat.le_of_eq g23.symm))
      have gn_b23 : n0 ≤ b23 := Nat.le_trans Z19 (Nat.le_of_eq g23.symm)
      have sz_b23 : hI.size ≤ b23 := Nat.le_trans K19.1 (Nat.le_of_eq g23.symm)
      have Z23 : n0 ≤ h23.size := Nat.le_trans Z19 E23.1
      have K23 : Keep hI h23 [a] := K19.ext E23
      have V23 : AV Z h23 b23 .long ((W + H) * ((max W H + 63) / 64)) (fun _ => (.long (0 : Int64))) := AV.new A23 (Int32.toInt_ofNat_of_lt (by omega))
      refine Go.step (st23) ?_
      show Go _ _ _ _ _ _ _ T23 (mkF m 118 #[.val (.ref a), .val (.int (Int32.ofNat W)), .val (.int (Int32.ofNat H)), .val (.int (bi (q63 = true)))] [(.ref b23), (.ref a)])
      have f27 := (Fld.ext E23 (Fld.other W19 (Fld.other W14 (Fld.other W9 (Fld.ext E7 (Fld.other W3 (Fld.other W2 F_5 (Or.inr (slot_ne (Or.inr (hw _ (List.mem_of_getElem? (i := 54) rfl))) (Or.inr (hw _ (List.mem_of_getElem? (i := 32) rfl))) (by decide) (t := (.array .long)) (t' := .int) (by decide) (by decide)))) (Or.inr (slot_ne (Or.inr (hw _ (List.mem_of_getElem? (i := 54) rfl))) (Or.inr (hw _ (List.mem_of_getElem? (i := 34) rfl))) (by decide) (t := (.array .long)) (t' := .int) (by decide) (by decide))))) (Or.inr (slot_ne (Or.inr (hw _ (List.mem_of_getElem? (i := 54) rfl))) (Or.inr (hw _ (List.mem_of_getElem? (i := 41) rfl))) (by decide) (t := (.array .long)) (t' := (.array .byte)) (by decide) (by decide)))) (Or.inr (slot_ne (Or.inr (hw _ (List.mem_of_getElem? (i := 54) rfl))) (Or.inr (hw _ (List.mem_of_getElem? (i := 44) rfl))) (by decide) (t := (.array .long)) (t' := .long) (by decide) (by decide)))) (Or.inr (slot_ne (Or.inr (hw _ (List.mem_of_getElem? (i := 54) rfl))) (Or.inr (hw _ (List.mem_of_getElem? (i := 52) rfl))) (by decide) (t := (.array .long)) (t' := .int) (by decide) (by decide)))))
      have f28 := (Exa.ext E23 f24)
      obtain ⟨T26, h26, X26, e26, W26, st26⟩ := putF X23 hx hZ hown (host := "") (Or.inl (hw _ (List.mem_of_getElem? (i := 53) rfl))) Via.refl e23 f27 f28 (Or.inr ⟨(hw _ (List.mem_of_getElem? (i := 54) rfl)), rfl, hnm⟩) (hw _ (List.mem_of_getElem? (i := 25) rfl)) (ty := (.array .long)) (by decide) rfl rfl (g := (mkF m 118 #[.val (.ref a), .val (.int (Int32.ofNat W)), .val (.int (Int32.ofNat H)), .val (.int (bi (q63 = true)))] [(.ref b23), (.ref a)])) rfl rfl (hb hby d4_118)
      have F26 := Fld.same W26 f27
      have N26 := Fr.snoc X26 N19 g_a
      have Z26 : n0 ≤ h26.size := Nat.le_trans Z23 (Keep.of_wr W26).1
      have K26 : Keep hI h26 [a] := K23.wr W26 (Or.inl (List.mem_of_getElem? (i := 0) rfl))
      refine Go.step (st26) ?_
      show Go _ _ _ _ _ _ _ T26 (mkF m 121 #[.val (.ref a), .val (.int (Int32.ofNat W)), .val (.int (Int32.ofNat H)), .val (.int (bi (q63 = true)))] [])
      refine Go.step (fun tt kk => XS.aloadN X26.here hx rfl (hb hby d4_121) rfl rfl kk) ?_
      show Go _ _ _ _ _ _ _ T26 (mkF m 122 #[.val (.ref a), .val (.int (Int32.ofNat W)), .val (.int (Int32.ofNat H)), .val (.int (bi (q63 = true)))] [(.ref a)])
      refine Go.step (fun tt kk => XS.iloadN X26.here hx rfl (hb hby d4_122) rfl kk) ?_
      show Go _ _ _ _ _ _ _ T26 (mkF m 123 #[.val (.ref a), .val (.int (Int32.ofNat W)), .val (.int (Int32.ofNat H)), .val (.int (bi (q63 = true)))] [(.int (Int32.ofNat W)), (.ref a)])
      refine Go.step (fun tt kk => XS.iloadN X26.here hx rfl (hb hby d4_123) rfl kk) ?_
      show Go _ _ _ _ _ _ _ T26 (mkF m 124 #[.val (.ref a), .val (.int (Int32.ofNat W)), .val (.int (Int32.ofNat H)), .val (.int (bi (q63 = true)))] [(.int (Int32.ofNat H)), (.int (Int32.ofNat W)), (.ref a)])
      refine Go.step (fun tt kk => XS.iadd X26.here hx rfl (hb hby d4_124) rfl kk) ?_
      show Go _ _ _ _ _ _ _ T26 (mkF m 125 #[.val (.ref a), .val (.int (Int32.ofNat W)), .val (.int (Int32.ofNat H)), .val (.int (bi (q63 = true)))] [(.int ((Int32.ofNat W) + (Int32.ofNat H))), (.ref a)])
      refine Go.step (fun tt kk => XS.aloadN X26.here hx rfl (hb hby d4_125) rfl rfl kk) ?_
      show Go _ _ _ _ _ _ _ T26 (mkF m 126 #[.val (.ref a), .val (.int (Int32.ofNat W)), .val (.int (Int32.ofNat H)), .val (.int (bi (q63 = true)))] [(.ref a), (.int ((Int32.ofNat W) + (Int32.ofNat H))), (.ref a)])
      have f30 := (Fld.other W26 (Fld.ext E23 F19) (Or.inr (slot_ne (Or.inr (hw _ (List.mem_of_getElem? (i := 52) rfl))) (Or.inr (hw _ (List.mem_of_getElem? (i := 54) rfl))) (by decide) (t := .int) (t' := (.array .long)) (by decide) (by decide))))
      obtain ⟨T29, X29, e29, st29⟩ := getF X26 hx hZ hown (host := "") (Or.inl (hw _ (List.mem_of_getElem? (i := 51) rfl))) Via.refl e26 f30 (g := (mkF m 126 #[.val (.ref a), .val (.int (Int32.ofNat W)), .val (.int (Int32.ofNat H)), .val (.int (bi (q63 = true)))] [(.ref a), (.int ((Int32.ofNat W) + (Int32.ofNat H))), (.ref a)])) rfl rfl (hb hby d4_126)
      refine Go.step (st29) ?_
      show Go _ _ _ _ _ _ _ T29 (mkF m 129 #[.val (.ref a), .val (.int (Int32.ofNat W)), .val (.int (Int32.ofNat H)), .val (.int (bi (q63 = true)))] [(.int (Int32.ofNat ((max W H + 63) / 64))), (.int ((Int32.ofNat W) + (Int32.ofNat H))), (.ref a)])
      refine Go.step (fun tt kk => XS.imul X29.here hx rfl (hb hby d4_129) rfl kk) ?_
      show Go _ _ _ _ _ _ _ T29 (mkF m 130 #[.val (.ref a), .val (.int (Int32.ofNat W)), .val (.int (Int32.ofNat H)), .val (.int (bi (q63 = true)))] [(.int (((Int32.ofNat W) + (Int32.ofNat H)) * (Int32.ofNat ((max W H + 63) / 64)))), (.ref a)])
      rw [← Int32.ofNat_add, ← Int32.ofNat_mul]
      show Go _ _ _ _ _ _ _ T29 (mkF m 130 #[.val (.ref a), .val (.int (Int32.ofNat W)), .val (.int (Int32.ofNat H)), .val (.int (bi (q63 = true)))] [(.int (Int32.ofNat ((W + H) * ((max W H + 63) / 64)))), (.ref a)])
      obtain ⟨T31, h31, k31, X31, e31, E31, A31, EA31, st31⟩ := newPE X29 hx hZ (hw _ (List.mem_of_getElem? (i := 19) rfl)) e29 (g := (mkF m 130 #[.val (.ref a), .val (.int (Int32.ofNat W)), .val (.int (Int32.ofNat H)), .val (.int (bi (q63 = true)))] [(.int (Int32.ofNat ((W + H) * ((max W H + 63) / 64)))), (.ref a)])) rfl (hb hby d4_130) rfl (own_nn ((W + H) * ((max W H + 63) / 64)) (by omega)) (cap := 128) (by rw [clamp_of (k := ((W + H) * ((max W H + 63) / 64))) (Int32.toInt_ofNat_of_lt (by omega))]; omega) (by decide) (by decide) (by decide) (ad := "[J") rfl
      obtain ⟨b31, g31⟩ : ∃ z, z = h26.size := ⟨_, rfl⟩
      rw [← g31] at A31 EA31 st31
      have f32 := (Exa.wr W26 f28)
      have ne_a_b31 : a ≠ b31 := Nat.ne_of_lt (Nat.lt_of_lt_of_le f32.lt (Nat.le_of_eq g31.symm))
      have f33 := (Exa.wr W26 (Exa.ext E23 f25))
      have ne_b7_b31 : b7 ≠ b31 := Nat.ne_of_lt (Nat.lt_of_lt_of_le f33.lt (Nat.le_of_eq g31.symm))
      have f34 := (Exa.wr W26 EA23)
      have ne_b23_b31 : b23 ≠ b31 := Nat.ne_of_lt (Nat.lt_of_lt_of_le f34.lt (Nat.le_of_eq g31.symm))
      have gn_b31 : n0 ≤ b31 := Nat.le_trans Z26 (Nat.le_of_eq g31.symm)
      have sz_b31 : hI.size ≤ b31 := Nat.le_trans K26.1 (Nat.le_of_eq g31.symm)
      have Z31 : n0 ≤ h31.size := Nat.le_trans Z26 E31.1
      have K31 : Keep hI h31 [a] := K26.ext E31
      have V31 : AV Z h31 b31 .long ((W + H) * ((max W H + 63) / 64)) (fun _ => (.long (0 : Int64))) := AV.new A31 (Int32.toInt_ofNat_of_lt (by omega))
      refine Go.step (st31) ?_
      show Go _ _ _ _ _ _ _ T31 (mkF m 132 #[.val (.ref a), .val (.int (Int32.ofNat W)), .val (.int (Int32.ofNat H)), .val (.int (bi (q63 = true)))] [(.ref b31), (.ref a)])
      have f36 := (Fld.ext E31 (Fld.other W26 (Fld.ext E23 (Fld.other W19 (Fld.other W14 (Fld.other W9 (Fld.ext E7 (Fld.other W3 (Fld.other W2 F_6 (Or.inr (slot_ne (Or.inr (hw _ (List.mem_of_getElem? (i := 56) rfl))) (Or.inr (hw _ (List.mem_of_getElem? (i := 32) rfl))) (by decide) (t := (.array .long)) (t' := .int) (by decide) (by decide)))) (Or.inr (slot_ne (Or.inr (hw _ (List.mem_of_getElem? (i := 56) rfl))) (Or.inr (hw _ (List.mem_of_getElem? (i := 34) rfl))) (by decide) (t := (.array .long)) (t' := .int) (by decide) (by decide))))) (Or.inr (slot_ne (Or.inr (hw _ (List.mem_of_getElem? (i := 56) rfl))) (Or.inr (hw _ (List.mem_of_getElem? (i := 41) rfl))) (by decide) (t := (.array .long)) (t' := (.array .byte)) (by decide) (by decide)))) (Or.inr (slot_ne (Or.inr (hw _ (List.mem_of_getElem? (i := 56) rfl))) (Or.inr (hw _ (List.mem_of_getElem? (i := 44) rfl))) (by decide) (t := (.array .long)) (t' := .long) (by decide) (by decide)))) (Or.inr (slot_ne (Or.inr (hw _ (List.mem_of_getElem? (i := 56) rfl))) (Or.inr (hw _ (List.mem_of_getElem? (i := 52) rfl))) (by decide) (t := (.array .long)) (t' := .int) (by decide) (by decide))))) (Or.inr (slot_ne (Or.inr (hw _ (List.mem_of_getElem? (i := 56) rfl))) (Or.inr (hw _ (List.mem_of_getElem? (i := 54) rfl))) (by decide) (t := (.array .long)) (t' := (.array .long)) (by decide) (by decide)))))
      have f37 := (Exa.ext E31 f32)
      obtain ⟨T35, h35, X35, e35, W35, st35⟩ := putF X31 hx hZ hown (host := "") (Or.inl (hw _ (List.mem_of_getElem? (i := 55) rfl))) Via.refl e31 f36 f37 (Or.inr ⟨(hw _ (List.mem_of_getElem? (i := 56) rfl)), rfl, hnm⟩) (hw _ (List.mem_of_getElem? (i := 25) rfl)) (ty := (.array .long)) (by decide) rfl rfl (g := (mkF m 132 #[.val (.ref a), .val (.int (Int32.ofNat W)), .val (.int (Int32.ofNat H)), .val (.int (bi (q63 = true)))] [(.ref b31), (.ref a)])) rfl rfl (hb hby d4_132)
      have F35 := Fld.same W35 f36
      have N35 := Fr.snoc X35 N26 g_a
      have Z35 : n0 ≤ h35.size := Nat.le_trans Z31 (Keep.of_wr W35).1
      have K35 : Keep hI h35 [a] := K31.wr W35 (Or.inl (List.mem_of_getElem? (i := 0) rfl))
      refine Go.step (st35) ?_
      show Go _ _ _ _ _ _ _ T35 (mkF m 135 #[.val (.ref a), .val (.int (Int32.ofNat W)), .val (.int (Int32.ofNat H)), .val (.int (bi (q63 = true)))] [])
      have f38 := (Exa.wr W35 f37)
      have f39 := (Fld.other W35 (Fld.ext E31 (Fld.other W26 (Fld.ext E23 (Fld.other W19 (Fld.other W14 (Fld.other W9 (Fld.ext E7 (Fld.other W3 F2 (Or.inr (slot_ne (Or.inr (hw _ (List.mem_of_getElem? (i := 32) rfl))) (Or.inr (hw _ (List.mem_of_getElem? (i := 34) rfl))) (by decide) (t := .int) (t' := .int) (by decide) (by decide))))) (Or.inr (slot_ne (Or.inr (hw _ (List.mem_of_getElem? (i := 32) rfl))) (Or.inr (hw _ (List.mem_of_getElem? (i := 41) rfl))) (by decide) (t := .int) (t' := (.array .byte)) (by decide) (by decide)))) (Or.inr (slot_ne (Or.inr (hw _ (List.mem_of_getElem? (i := 32) rfl))) (Or.inr (hw _ (List.mem_of_getElem? (i := 44) rfl))) (by decide) (t := .int) (t' := .long) (by decide) (by decide)))) (Or.inr (slot_ne (Or.inr (hw _ (List.mem_of_getElem? (i := 32) rfl))) (Or.inr (hw _ (List.mem_of_getElem? (i := 52) rfl))) (by decide) (t := .int) (t' := .int) (by decide) (by decide))))) (Or.inr (slot_ne (Or.inr (hw _ (List.mem_of_getElem? (i := 32) rfl))) (Or.inr (hw _ (List.mem_of_getElem? (i := 54) rfl))) (by decide) (t := .int) (t' := (.array .long)) (by decide) (by decide))))) (Or.inr (slot_ne (Or.inr (hw _ (List.mem_of_getElem? (i := 32) rfl))) (Or.inr (hw _ (List.mem_of_getElem? (i := 56) rfl))) (by decide) (t := .int) (t' := (.array .long)) (by decide) (by decide))))
      have f40 := (Fld.other W35 (Fld.ext E31 (Fld.other W26 (Fld.ext E23 (Fld.other W19 (Fld.other W14 (Fld.other W9 (Fld.ext E7 F3) (Or.inr (slot_ne (Or.inr (hw _ (List.mem_of_getElem? (i := 34) rfl))) (Or.inr (hw _ (List.mem_of_getElem? (i := 41) rfl))) (by decide) (t := .int) (t' := (.array .byte)) (by decide) (by decide)))) (Or.inr (slot_ne (Or.inr (hw _ (List.mem_of_getElem? (i := 34) rfl))) (Or.inr (hw _ (List.mem_of_getElem? (i := 44) rfl))) (by decide) (t := .int) (t' := .long) (by decide) (by decide)))) (Or.inr (slot_ne (Or.inr (hw _ (List.mem_of_getElem? (i := 34) rfl))) (Or.inr (hw _ (List.mem_of_getElem? (i := 52) rfl))) (by decide) (t := .int) (t' := .int) (by decide) (by decide))))) (Or.inr (slot_ne (Or.inr (hw _ (List.mem_of_getElem? (i := 34) rfl))) (Or.inr (hw _ (List.mem_of_getElem? (i := 54) rfl))) (by decide) (t := .int) (t' := (.array .long)) (by decide) (by decide))))) (Or.inr (slot_ne (Or.inr (hw _ (List.mem_of_getElem? (i := 34) rfl))) (Or.inr (hw _ (List.mem_of_getElem? (i := 56) rfl))) (by decide) (t := .int) (t' := (.array .long)) (by decide) (by decide))))
      refine go_ret X35 hx hret hlk (hb hby d4_135) ?_ (by decide) (by decide)
      try rw [e35]
      exact ⟨rfl, N35, eI ▸ K35, f38, f39, f40⟩
    by_cases c74_41 : q63 = true
    · refine Go.step (fun tt kk => XS.ifNo X12.here hx rfl (hb hby d4_74) rfl ((if0 _ _).trans (feq (bi_n c74_41)).1) kk) ?_
      show Go _ _ _ _ _ _ _ T12 (mkF m 77 #[.val (.ref a), .val (.int (Int32.ofNat W)), .val (.int (Int32.ofNat H)), .val (.int (bi (q63 = true)))] [(.ref a)])
      refine Go.step (X12.ldc2Long hx hown (mvT hZ (hw _ (List.mem_of_getElem? (i := 42) rfl))) (g := (mkF m 77 #[.val (.ref a), .val (.int (Int32.ofNat W)), .val (.int (Int32.ofNat H)), .val (.int (bi (q63 = true)))] [(.ref a)])) rfl (hb hby d4_77)) ?_
      show Go _ _ _ _ _ _ _ T12 (mkF m 80 #[.val (.ref a), .val (.int (Int32.ofNat W)), .val (.int (Int32.ofNat H)), .val (.int (bi (q63 = true)))] [(.long (1099511627776 : Int64)), (.ref a)])
      refine Go.step (fun tt kk => XS.iloadN X12.here hx rfl (hb hby d4_80) rfl kk) ?_
      show Go _ _ _ _ _ _ _ T12 (mkF m 81 #[.val (.ref a), .val (.int (Int32.ofNat W)), .val (.int (Int32.ofNat H)), .val (.int (bi (q63 = true)))] [(.int (Int32.ofNat W)), (.long (1099511627776 : Int64)), (.ref a)])
      refine Go.step (fun tt kk => XS.i2l X12.here hx rfl (hb hby d4_81) rfl kk) ?_
      show Go _ _ _ _ _ _ _ T12 (mkF m 82 #[.val (.ref a), .val (.int (Int32.ofNat W)), .val (.int (Int32.ofNat H)), .val (.int (bi (q63 = true)))] [(.long ((Int32.ofNat W).toInt64)), (.long (1099511627776 : Int64)), (.ref a)])
      refine Go.step (fun tt kk => XS.ladd X12.here hx rfl (hb hby d4_82) rfl kk) ?_
      show Go _ _ _ _ _ _ _ T12 (mkF m 83 #[.val (.ref a), .val (.int (Int32.ofNat W)), .val (.int (Int32.ofNat H)), .val (.int (bi (q63 = true)))] [(.long ((1099511627776 : Int64) + ((Int32.ofNat W).toInt64))), (.ref a)])
      refine Go.step (fun tt kk => XS.lconst X12.here hx rfl (hb hby d4_83) kk) ?_
      show Go _ _ _ _ _ _ _ T12 (mkF m 84 #[.val (.ref a), .val (.int (Int32.ofNat W)), .val (.int (Int32.ofNat H)), .val (.int (bi (q63 = true)))] [(.long (1 : Int64)), (.long ((1099511627776 : Int64) + ((Int32.ofNat W).toInt64))), (.ref a)])
      refine Go.step (fun tt kk => XS.lsub X12.here hx rfl (hb hby d4_84) rfl kk) ?_
      show Go _ _ _ _ _ _ _ T12 (mkF m 85 #[.val (.ref a), .val (.int (Int32.ofNat W)), .val (.int (Int32.ofNat H)), .val (.int (bi (q63 = true)))] [(.long (((1099511627776 : Int64) + ((Int32.ofNat W).toInt64)) - (1 : Int64))), (.ref a)])
      refine Go.step (fun tt kk => XS.iloadN X12.here hx rfl (hb hby d4_85) rfl kk) ?_
      show Go _ _ _ _ _ _ _ T12 (mkF m 86 #[.val (.ref a), .val (.int (Int32.ofNat W)), .val (.int (Int32.ofNat H)), .val (.int (bi (q63 = true)))] [(.int (Int32.ofNat W)), (.long (((1099511627776 : Int64) + ((Int32.ofNat W).toInt64)) - (1 : Int64))), (.ref a)])
      refine Go.step (fun tt kk => XS.i2l X12.here hx rfl (hb hby d4_86) rfl kk) ?_
      show Go _ _ _ _ _ _ _ T12 (mkF m 87 #[.val (.ref a), .val (.int (Int32.ofNat W)), .val (.int (Int32.ofNat H)), .val (.int (bi (q63 = true)))] [(.long ((Int32.ofNat W).toInt64)), (.long (((1099511627776 : Int64) + ((Int32.ofNat W).toInt64)) - (1 : Int64))), (.ref a)])
      refine Go.step (fun tt kk => XS.ldiv X12.here hx rfl (hb hby d4_87) rfl (own_nzL W (by omega) (by omega)) kk) ?_
      show Go _ _ _ _ _ _ _ T12 (mkF m 88 #[.val (.ref a), .val (.int (Int32.ofNat W)), .val (.int (Int32.ofNat H)), .val (.int (bi (q63 = true)))] [(.long ((((1099511627776 : Int64) + ((Int32.ofNat W).toInt64)) - (1 : Int64)) / ((Int32.ofNat W).toInt64))), (.ref a)])
      refine Go.step (fun tt kk => XS.goto X12.here hx rfl (pc0 := 88) (pc' := 92) rfl (hb hby d4_88) (by decide) (by decide) kk) ?_
      show Go _ _ _ _ _ _ _ T12 (mkF m 92 #[.val (.ref a), .val (.int (Int32.ofNat W)), .val (.int (Int32.ofNat H)), .val (.int (bi (q63 = true)))] [(.long ((((1099511627776 : Int64) + ((Int32.ofNat W).toInt64)) - (1 : Int64)) / ((Int32.ofNat W).toInt64))), (.ref a)])
      exact j74 _
    · refine Go.step (fun tt kk => XS.ifYes X12.here hx rfl (pc0 := 74) (pc' := 91) rfl (hb hby d4_74) rfl ((if0 _ _).trans (teq (bi_f c74_41)).1) (by decide) (by decide) kk) ?_
      show Go _ _ _ _ _ _ _ T12 (mkF m 91 #[.val (.ref a), .val (.int (Int32.ofNat W)), .val (.int (Int32.ofNat H)), .val (.int (bi (q63 = true)))] [(.ref a)])
      refine Go.step (fun tt kk => XS.lconst X12.here hx rfl (hb hby d4_91) kk) ?_
      show Go _ _ _ _ _ _ _ T12 (mkF m 92 #[.val (.ref a), .val (.int (Int32.ofNat W)), .val (.int (Int32.ofNat H)), .val (.int (bi (q63 = true)))] [(.long (0 : Int64)), (.ref a)])
      exact j74 _
  by_cases c63_42 : (((Int32.ofNat (W * H)).toInt64) * ((Int32.ofNat W).toInt64)) < (1099511627776 : Int64)
  · refine Go.step (fun tt kk => XS.ifNo X12.here hx rfl (hb hby d4_63) rfl ((if0 _ _).trans (tlt ((lw_lt _ _).mpr c63_42)).2.1) kk) ?_
    show Go _ _ _ _ _ _ _ T12 (mkF m 66 #[.val (.ref a), .val (.int (Int32.ofNat W)), .val (.int (Int32.ofNat H)), .unset] [])
    refine Go.step (fun tt kk => XS.iconst X12.here hx rfl (hb hby d4_66) kk) ?_
    show Go _ _ _ _ _ _ _ T12 (mkF m 67 #[.val (.ref a), .val (.int (Int32.ofNat W)), .val (.int (Int32.ofNat H)), .unset] [(.int (1 : Int32))])
    refine Go.step (fun tt kk => XS.goto X12.here hx rfl (pc0 := 67) (pc' := 71) rfl (hb hby d4_67) (by decide) (by decide) kk) ?_
    show Go _ _ _ _ _ _ _ T12 (mkF m 71 #[.val (.ref a), .val (.int (Int32.ofNat W)), .val (.int (Int32.ofNat H)), .unset] [(.int (1 : Int32))])
    rw [show (bi (q63 = true)) = (1 : Int32) from bi_t (hq63.mpr (by simp only [eq_true c63_42, not_true_eq_false, not_false_eq_true, and_true, true_and, and_false, false_and, or_true, true_or, or_false, false_or, and_self, or_self]))] at j63
    exact j63
  · refine Go.step (fun tt kk => XS.ifYes X12.here hx rfl (pc0 := 63) (pc' := 70) rfl (hb hby d4_63) rfl ((if0 _ _).trans (flt (fun q => c63_42 ((lw_lt _ _).mp q))).2.1) (by decide) (by decide) kk) ?_
    show Go _ _ _ _ _ _ _ T12 (mkF m 70 #[.val (.ref a), .val (.int (Int32.ofNat W)), .val (.int (Int32.ofNat H)), .unset] [])
    refine Go.step (fun tt kk => XS.iconst X12.here hx rfl (hb hby d4_70) kk) ?_
    show Go _ _ _ _ _ _ _ T12 (mkF m 71 #[.val (.ref a), .val (.int (Int32.ofNat W)), .val (.int (Int32.ofNat H)), .unset] [(.int (0 : Int32))])
    rw [show (bi (q63 = true)) = (0 : Int32) from bi_f (mt hq63.mp (by simp only [eq_false c63_42, not_true_eq_false, not_false_eq_true, and_true, true_and, and_false, false_and, or_true, true_or, or_false, false_or, and_self, or_self]))] at j63
    exact j63
theorem ef_rmGwidth (m : MethodId) (x0 : Addr) : entryFrame m #[(.ref x0)] 1 = mkF m 0 #[.val (.ref x0)] [] := by first | (simp [entryFrame, mkF, argsToLocals, Value.category]; done) | rfl
theorem d9_0 : decode prog_58_method_2_code 0 = .ok (.aload_n 0, 1) := by decide +kernel
theorem d9_1 : decode prog_58_method_2_code 1 = .ok (.getfield 16, 3) := by decide +kernel
theorem d9_4 : decode prog_58_method_2_code 4 = .ok (.ireturn, 1) := by decide +kernel
set_option maxRecDepth 65536 in
set_option maxHeartbeats 40000000 in
theorem rmGwidth (l : Launch) (Z : State) (a0 : Array Value) (hw : ∀ d ∈ tables_1, d.before a0 Z = true) (ws : List Jvm.Cond) (a : Addr) (u : Int32) (h0 : Heap) (n0 : Nat) (Z0 : n0 ≤ h0.size) (F : Fld Z h0 a "com/example/gridwright/gridwright/engine/Grid" "width" "I" (.int u)) :
    Ctr l Z (⟨"com/example/gridwright/gridwright/engine/Grid", "width", "()I"⟩ : MethodName) prog_58_method_2_code 1 (some .int) ws ({ frames := 0, cells := 0, slots := 0, locals := 0 } : Room) 0 0 #[(.ref a)] h0 (fun v h L => v = some (.int u) ∧ L = [] ∧ h = h0) := by
  refine Ctr.mk (plainFor_of_name pn_0) fun p e s m below meth c T0 X0 C e0 => go_cast (ef_rmGwidth m a) ?_
  have N0 := Fr.nil n0
  obtain ⟨hx, hZ, hby, hml, hown, hnm, hret, hlk⟩ := C
  show Go _ _ _ _ _ _ _ T0 (mkF m 0 #[.val (.ref a)] [])
  refine Go.step (fun tt kk => XS.aloadN X0.here hx rfl (hb hby d9_0) rfl rfl kk) ?_
  show Go _ _ _ _ _ _ _ T0 (mkF m 1 #[.val (.ref a)] [(.ref a)])
  obtain ⟨T1, X1, e1, st1⟩ := getF X0 hx hZ hown (host := "") (Or.inl (hw _ (List.mem_of_getElem? (i := 31) rfl))) Via.refl e0 F (g := (mkF m 1 #[.val (.ref a)] [(.ref a)])) rfl rfl (hb hby d9_1)
  refine Go.step (st1) ?_
  show Go _ _ _ _ _ _ _ T1 (mkF m 4 #[.val (.ref a)] [(.int u)])
  refine go_retI X1 hx hret hlk (hb hby d9_4) ?_ (by decide) (by decide)
  try rw [e1]
  exact ⟨rfl, rfl, rfl⟩
theorem ef_rmGheight (m : MethodId) (x0 : Addr) : entryFrame m #[(.ref x0)] 1 = mkF m 0 #[.val (.ref x0)] [] := by first | (simp [entryFrame, mkF, argsToLocals, Value.category]; done) | rfl
theorem d10_0 : decode prog_58_method_3_code 0 = .ok (.aload_n 0, 1) := by decide +kernel
theorem d10_1 : decode prog_58_method_3_code 1 = .ok (.getfield 22, 3) := by decide +kernel
theorem d10_4 : decode prog_58_method_3_code 4 = .ok (.ireturn, 1) := by decide +kernel
set_option maxRecDepth 65536 in
set_option maxHeartbeats 40000000 in
theorem rmGheight (l : Launch) (Z : State) (a0 : Array Value) (hw : ∀ d ∈ tables_1, d.before a0 Z = true) (ws : List Jvm.Cond) (a : Addr) (u : Int32) (h0 : Heap) (n0 : Nat) (Z0 : n0 ≤ h0.size) (F : Fld Z h0 a "com/example/gridwright/gridwright/engine/Grid" "height" "I" (.int u)) :
    Ctr l Z (⟨"com/example/gridwright/gridwright/engine/Grid", "height", "()I"⟩ : MethodName) prog_58_method_3_code 1 (some .int) ws ({ frames := 0, cells := 0, slots := 0, locals := 0 } : Room) 0 0 #[(.ref a)] h0 (fun v h L => v = some (.int u) ∧ L = [] ∧ h = h0) := by
  refine Ctr.mk (plainFor_of_name pn_0) fun p e s m below meth c T0 X0 C e0 => go_cast (ef_rmGheight m a) ?_
  have N0 := Fr.nil n0
  obtain ⟨hx, hZ, hby, hml, hown, hnm, hret, hlk⟩ := C
  show Go _ _ _ _ _ _ _ T0 (mkF m 0 #[.val (.ref a)] [])
  refine Go.step (fun tt kk => XS.aloadN X0.here hx rfl (hb hby d10_0) rfl rfl kk) ?_
  show Go _ _ _ _ _ _ _ T0 (mkF m 1 #[.val (.ref a)] [(.ref a)])
  obtain ⟨T1, X1, e1, st1⟩ := getF X0 hx hZ hown (host := "") (Or.inl (hw _ (List.mem_of_getElem? (i := 33) rfl))) Via.refl e0 F (g := (mkF m 1 #[.val (.ref a)] [(.ref a)])) rfl rfl (hb hby d10_1)
  refine Go.step (st1) ?_
  show Go _ _ _ _ _ _ _ T1 (mkF m 4 #[.val (.ref a)] [(.int u)])
  refine go_retI X1 hx hret hlk (hb hby d10_4) ?_ (by decide) (by decide)
  try rw [e1]
  exact ⟨rfl, rfl, rfl⟩
theorem ef_rmti (m : MethodId) (x0 : Int32) : entryFrame m #[(.int x0)] 2 = mkF m 0 #[.val (.int x0), .unset] [] := by first | (simp [entryFrame, mkF, argsToLocals, Value.category]; done) | rfl
theorem pn_1 : plainName "java/lang/Integer" = true := by first | (simp [plainName, overriddenIn]; done) | decide +kernel
theorem d15_0 : decode jdk_33_method_48_code 0 = .ok (.iload_n 0, 1) := by decide +kernel
theorem d15_1 : decode jdk_33_method_48_code 1 = .ok (.iconst (-1), 1) := by decide +kernel
theorem d15_2 : decode jdk_33_method_48_code 2 = .ok (.ixor, 1) := by decide +kernel
theorem d15_3 : decode jdk_33_method_48_code 3 = .ok (.iload_n 0, 1) := by decide +kernel
theorem d15_4 : decode jdk_33_method_48_code 4 = .ok (.iconst 1, 1) := by decide +kernel
theorem d15_5 : decode jdk_33_method_48_code 5 = .ok (.isub, 1) := by decide +kernel
theorem d15_6 : decode jdk_33_method_48_code 6 = .ok (.iand, 1) := by decide +kernel
theorem d15_7 : decode jdk_33_method_48_code 7 = .ok (.istore_n 0, 1) := by decide +kernel
theorem d15_8 : decode jdk_33_method_48_code 8 = .ok (.iload_n 0, 1) := by decide +kernel
theorem d15_9 : decode jdk_33_method_48_code 9 = .ok (.ifCond .gt 8, 3) := by decide +kernel
theorem d15_17 : decode jdk_33_method_48_code 17 = .ok (.iconst 1, 1) := by decide +kernel
theorem d15_18 : decode jdk_33_method_48_code 18 = .ok (.istore_n 1, 1) := by decide +kernel
theorem d15_19 : decode jdk_33_method_48_code 19 = .ok (.iload_n 0, 1) := by decide +kernel
theorem d15_20 : decode jdk_33_method_48_code 20 = .ok (.ldc_w 264, 3) := by decide +kernel
theorem d15_23 : decode jdk_33_method_48_code 23 = .ok (.if_icmp .le 11, 3) := by decide +kernel
theorem d15_26 : decode jdk_33_method_48_code 26 = .ok (.iinc 1 16, 3) := by decide +kernel
theorem d15_29 : decode jdk_33_method_48_code 29 = .ok (.iload_n 0, 1) := by decide +kernel
theorem d15_30 : decode jdk_33_method_48_code 30 = .ok (.bipush 16, 2) := by decide +kernel
theorem d15_32 : decode jdk_33_method_48_code 32 = .ok (.iushr, 1) := by decide +kernel
theorem d15_33 : decode jdk_33_method_48_code 33 = .ok (.istore_n 0, 1) := by decide +kernel
theorem d15_34 : decode jdk_33_method_48_code 34 = .ok (.iload_n 0, 1) := by decide +kernel
theorem d15_35 : decode jdk_33_method_48_code 35 = .ok (.sipush 256, 3) := by decide +kernel
theorem d15_38 : decode jdk_33_method_48_code 38 = .ok (.if_icmp .le 11, 3) := by decide +kernel
theorem d15_41 : decode jdk_33_method_48_code 41 = .ok (.iinc 1 8, 3) := by decide +kernel
theorem d15_44 : decode jdk_33_method_48_code 44 = .ok (.iload_n 0, 1) := by decide +kernel
theorem d15_45 : decode jdk_33_method_48_code 45 = .ok (.bipush 8, 2) := by decide +kernel
theorem d15_47 : decode jdk_33_method_48_code 47 = .ok (.iushr, 1) := by decide +kernel
theorem d15_48 : decode jdk_33_method_48_code 48 = .ok (.istore_n 0, 1) := by decide +kernel
theorem d15_49 : decode jdk_33_method_48_code 49 = .ok (.iload_n 0, 1) := by decide +kernel
theorem d15_50 : decode jdk_33_method_48_code 50 = .ok (.bipush 16, 2) := by decide +kernel
theorem d15_52 : decode jdk_33_method_48_code 52 = .ok (.if_icmp .le 10, 3) := by decide +kernel
theorem d15_55 : decode jdk_33_method_48_code 55 = .ok (.iinc 1 4, 3) := by decide +kernel
theorem d15_58 : decode jdk_33_method_48_code 58 = .ok (.iload_n 0, 1) := by decide +kernel
theorem d15_59 : decode jdk_33_method_48_code 59 = .ok (.iconst 4, 1) := by decide +kernel
theorem d15_60 : decode jdk_33_method_48_code 60 = .ok (.iushr, 1) := by decide +kernel
theorem d15_61 : decode jdk_33_method_48_code 61 = .ok (.istore_n 0, 1) := by decide +kernel
theorem d15_62 : decode jdk_33_method_48_code 62 = .ok (.iload_n 0, 1) := by decide +kernel
theorem d15_63 : decode jdk_33_method_48_code 63 = .ok (.iconst 4, 1) := by decide +kernel
theorem d15_64 : decode jdk_33_method_48_code 64 = .ok (.if_icmp .le 10, 3) := by decide +kernel
theorem d15_67 : decode jdk_33_method_48_code 67 = .ok (.iinc 1 2, 3) := by decide +kernel
theorem d15_70 : decode jdk_33_method_48_code 70 = .ok (.iload_n 0, 1) := by decide +kernel
theorem d15_71 : decode jdk_33_method_48_code 71 = .ok (.iconst 2, 1) := by decide +kernel
theorem d15_72 : decode jdk_33_method_48_code 72 = .ok (.iushr, 1) := by decide +kernel
theorem d15_73 : decode jdk_33_method_48_code 73 = .ok (.istore_n 0, 1) := by decide +kernel
theorem d15_74 : decode jdk_33_method_48_code 74 = .ok (.iload_n 1, 1) := by decide +kernel
theorem d15_75 : decode jdk_33_method_48_code 75 = .ok (.iload_n 0, 1) := by decide +kernel
theorem d15_76 : decode jdk_33_method_48_code 76 = .ok (.iconst 1, 1) := by decide +kernel
theorem d15_77 : decode jdk_33_method_48_code 77 = .ok (.iushr, 1) := by decide +kernel
theorem d15_78 : decode jdk_33_method_48_code 78 = .ok (.iadd, 1) := by decide +kernel
theorem d15_79 : decode jdk_33_method_48_code 79 = .ok (.ireturn, 1) := by decide +kernel
theorem d15_12 : decode jdk_33_method_48_code 12 = .ok (.iload_n 0, 1) := by decide +kernel
theorem d15_13 : decode jdk_33_method_48_code 13 = .ok (.bipush 32, 2) := by decide +kernel
theorem d15_15 : decode jdk_33_method_48_code 15 = .ok (.iand, 1) := by decide +kernel
theorem d15_16 : decode jdk_33_method_48_code 16 = .ok (.ireturn, 1) := by decide +kernel
set_option maxRecDepth 65536 in
set_option maxHeartbeats 40000000 in
theorem rmti (l : Launch) (Z : State) (a0 : Array Value) (hw : ∀ d ∈ tables_1, d.before a0 Z = true) (ws : List Jvm.Cond) (x : Int32) (h0 : Heap) (n0 : Nat) (Z0 : n0 ≤ h0.size)  :
    Ctr l Z (⟨"java/lang/Integer", "numberOfTrailingZeros", "(I)I"⟩ : MethodName) jdk_33_method_48_code 2 (some .int) ws ({ frames := 0, cells := 0, slots := 0, locals := 0 } : Room) 0 0 #[(.int x)] h0 (fun v h L => v = some (.int (ntzI x)) ∧ L = [] ∧ h = h0) := by
  refine Ctr.mk (plainFor_of_name pn_1) fun p e s m below meth c T0 X0 C e0 => go_cast (ef_rmti m x) ?_
  have N0 := Fr.nil n0
  obtain ⟨hx, hZ, hby, hml, hown, hnm, hret, hlk⟩ := C
  show Go _ _ _ _ _ _ _ T0 (mkF m 0 #[.val (.int x), .unset] [])
  refine Go.step (fun tt kk => XS.iloadN X0.here hx rfl (hb hby d15_0) rfl kk) ?_
  show Go _ _ _ _ _ _ _ T0 (mkF m 1 #[.val (.int x), .unset] [(.int x)])
  refine Go.step (fun tt kk => XS.iconst X0.here hx rfl (hb hby d15_1) kk) ?_
  show Go _ _ _ _ _ _ _ T0 (mkF m 2 #[.val (.int x), .unset] [(.int (-1 : Int32)), (.int x)])
  refine Go.step (fun tt kk => XS.ixor X0.here hx rfl (hb hby d15_2) rfl kk) ?_
  show Go _ _ _ _ _ _ _ T0 (mkF m 3 #[.val (.int x), .unset] [(.int (x ^^^ (-1 : Int32)))])
  refine Go.step (fun tt kk => XS.iloadN X0.here hx rfl (hb hby d15_3) rfl kk) ?_
  show Go _ _ _ _ _ _ _ T0 (mkF m 4 #[.val (.int x), .unset] [(.int x), (.int (x ^^^ (-1 : Int32)))])
  refine Go.step (fun tt kk => XS.iconst X0.here hx rfl (hb hby d15_4) kk) ?_
  show Go _ _ _ _ _ _ _ T0 (mkF m 5 #[.val (.int x), .unset] [(.int (1 : Int32)), (.int x), (.int (x ^^^ (-1 : Int32)))])
  refine Go.step (fun tt kk => XS.isub X0.here hx rfl (hb hby d15_5) rfl kk) ?_
  show Go _ _ _ _ _ _ _ T0 (mkF m 6 #[.val (.int x), .unset] [(.int (x - (1 : Int32))), (.int (x ^^^ (-1 : Int32)))])
  refine Go.step (fun tt kk => XS.iand X0.here hx rfl (hb hby d15_6) rfl kk) ?_
  show Go _ _ _ _ _ _ _ T0 (mkF m 7 #[.val (.int x), .unset] [(.int ((x ^^^ (-1 : Int32)) &&& (x - (1 : Int32))))])
  refine Go.step (fun tt kk => XS.istoreN X0.here hx rfl (hb hby d15_7) rfl (l' := #[.val (.int ((x ^^^ (-1 : Int32)) &&& (x - (1 : Int32)))), .unset]) rfl kk) ?_
  show Go _ _ _ _ _ _ _ T0 (mkF m 8 #[.val (.int ((x ^^^ (-1 : Int32)) &&& (x - (1 : Int32)))), .unset] [])
  refine Go.step (fun tt kk => XS.iloadN X0.here hx rfl (hb hby d15_8) rfl kk) ?_
  show Go _ _ _ _ _ _ _ T0 (mkF m 9 #[.val (.int ((x ^^^ (-1 : Int32)) &&& (x - (1 : Int32)))), .unset] [(.int ((x ^^^ (-1 : Int32)) &&& (x - (1 : Int32))))])
  by_cases c9_1 : (0 : Int32) < ((x ^^^ (-1 : Int32)) &&& (x - (1 : Int32)))
  · refine Go.step (fun tt kk => XS.ifYes X0.here hx rfl (pc0 := 9) (pc' := 17) rfl (hb hby d15_9) rfl ((if0 _ _).trans (tlt c9_1).2.2.1) (by decide) (by decide) kk) ?_
    show Go _ _ _ _ _ _ _ T0 (mkF m 17 #[.val (.int ((x ^^^ (-1 : Int32)) &&& (x - (1 : Int32)))), .unset] [])
    refine Go.step (fun tt kk => XS.iconst X0.here hx rfl (hb hby d15_17) kk) ?_
    show Go _ _ _ _ _ _ _ T0 (mkF m 18 #[.val (.int ((x ^^^ (-1 : Int32)) &&& (x - (1 : Int32)))), .unset] [(.int (1 : Int32))])
    refine Go.step (fun tt kk => XS.istoreN X0.here hx rfl (hb hby d15_18) rfl (l' := #[.val (.int ((x ^^^ (-1 : Int32)) &&& (x - (1 : Int32)))), .val (.int (1 : Int32))]) rfl kk) ?_
    show Go _ _ _ _ _ _ _ T0 (mkF m 19 #[.val (.int ((x ^^^ (-1 : Int32)) &&& (x - (1 : Int32)))), .val (.int (1 : Int32))] [])
    refine Go.step (fun tt kk => XS.iloadN X0.here hx rfl (hb hby d15_19) rfl kk) ?_
    show Go _ _ _ _ _ _ _ T0 (mkF m 20 #[.val (.int ((x ^^^ (-1 : Int32)) &&& (x - (1 : Int32)))), .val (.int (1 : Int32))] [(.int ((x ^^^ (-1 : Int32)) &&& (x - (1 : Int32))))])
    refine Go.step (X0.ldcwInt hx hown (mvT hZ (hw _ (List.mem_of_getElem? (i := 114) rfl))) (g := (mkF m 20 #[.val (.int ((x ^^^ (-1 : Int32)) &&& (x - (1 : Int32)))), .val (.int (1 : Int32))] [(.int ((x ^^^ (-1 : Int32)) &&& (x - (1 : Int32))))])) rfl (hb hby d15_20)) ?_
    show Go _ _ _ _ _ _ _ T0 (mkF m 23 #[.val (.int ((x ^^^ (-1 : Int32)) &&& (x - (1 : Int32)))), .val (.int (1 : Int32))] [(.int (65536 : Int32)), (.int ((x ^^^ (-1 : Int32)) &&& (x - (1 : Int32))))])
    by_cases c23_2 : (65536 : Int32) < ((x ^^^ (-1 : Int32)) &&& (x - (1 : Int32)))
    · refine Go.step (fun tt kk => XS.icmpNo X0.here hx rfl (hb hby d15_23) rfl (tlt c23_2).2.2.2 kk) ?_
      show Go _ _ _ _ _ _ _ T0 (mkF m 26 #[.val (.int ((x ^^^ (-1 : Int32)) &&& (x - (1 : Int32)))), .val (.int (1 : Int32))] [])
      refine Go.step (fun tt kk => XS.iinc X0.here hx rfl (hb hby d15_26) rfl (l' := #[.val (.int ((x ^^^ (-1 : Int32)) &&& (x - (1 : Int32)))), .val (.int (17 : Int32))]) rfl kk) ?_
      show Go _ _ _ _ _ _ _ T0 (mkF m 29 #[.val (.int ((x ^^^ (-1 : Int32)) &&& (x - (1 : Int32)))), .val (.int (17 : Int32))] [])
      refine Go.step (fun tt kk => XS.iloadN X0.here hx rfl (hb hby d15_29) rfl kk) ?_
      show Go _ _ _ _ _ _ _ T0 (mkF m 30 #[.val (.int ((x ^^^ (-1 : Int32)) &&& (x - (1 : Int32)))), .val (.int (17 : Int32))] [(.int ((x ^^^ (-1 : Int32)) &&& (x - (1 : Int32))))])
      refine Go.step (fun tt kk => XS.bipush X0.here hx rfl (hb hby d15_30) kk) ?_
      show Go _ _ _ _ _ _ _ T0 (mkF m 32 #[.val (.int ((x ^^^ (-1 : Int32)) &&& (x - (1 : Int32)))), .val (.int (17 : Int32))] [(.int (16 : Int32)), (.int ((x ^^^ (-1 : Int32)) &&& (x - (1 : Int32))))])
      refine Go.step (fun tt kk => XS.iushr X0.here hx rfl (hb hby d15_32) rfl kk) ?_
      show Go _ _ _ _ _ _ _ T0 (mkF m 33 #[.val (.int ((x ^^^ (-1 : Int32)) &&& (x - (1 : Int32)))), .val (.int (17 : Int32))] [(.int ((((x ^^^ (-1 : Int32)) &&& (x - (1 : Int32))).toUInt32 >>> ((16 : Int32) &&& 31).toUInt32).toInt32))])
      refine Go.step (fun tt kk => XS.istoreN X0.here hx rfl (hb hby d15_33) rfl (l' := #[.val (.int ((((x ^^^ (-1 : Int32)) &&& (x - (1 : Int32))).toUInt32 >>> ((16 : Int32) &&& 31).toUInt32).toInt32)), .val (.int (17 : Int32))]) rfl kk) ?_
      show Go _ _ _ _ _ _ _ T0 (mkF m 34 #[.val (.int ((((x ^^^ (-1 : Int32)) &&& (x - (1 : Int32))).toUInt32 >>> ((16 : Int32) &&& 31).toUInt32).toInt32)), .val (.int (17 : Int32))] [])
      refine Go.step (fun tt kk => XS.iloadN X0.here hx rfl (hb hby d15_34) rfl kk) ?_
      show Go _ _ _ _ _ _ _ T0 (mkF m 35 #[.val (.int ((((x ^^^ (-1 : Int32)) &&& (x - (1 : Int32))).toUInt32 >>> ((16 : Int32) &&& 31).toUInt32).toInt32)), .val (.int (17 : Int32))] [(.int ((((x ^^^ (-1 : Int32)) &&& (x - (1 : Int32))).toUInt32 >>> ((16 : Int32) &&& 31).toUInt32).toInt32))])
      refine Go.step (fun tt kk => XS.sipush X0.here hx rfl (hb hby d15_35) kk) ?_
      show Go _ _ _ _ _ _ _ T0 (mkF m 38 #[.val (.int ((((x ^^^ (-1 : Int32)) &&& (x - (1 : Int32))).toUInt32 >>> ((16 : Int32) &&& 31).toUInt32).toInt32)), .val (.int (17 : Int32))] [(.int (256 : Int32)), (.int ((((x ^^^ (-1 : Int32)) &&& (x - (1 : Int32))).toUInt32 >>> ((16 : Int32) &&& 31).toUInt32).toInt32))])
      by_cases c38_3 : (256 : Int32) < ((((x ^^^ (-1 : Int32)) &&& (x - (1 : Int32))).toUInt32 >>> ((16 : Int32) &&& 31).toUInt32).toInt32)
      · refine Go.step (fun tt kk => XS.icmpNo X0.here hx rfl (hb hby d15_38) rfl (tlt c38_3).2.2.2 kk) ?_
        show Go _ _ _ _ _ _ _ T0 (mkF m 41 #[.val (.int ((((x ^^^ (-1 : Int32)) &&& (x - (1 : Int32))).toUInt32 >>> ((16 : Int32) &&& 31).toUInt32).toInt32)), .val (.int (17 : Int32))] [])
        refine Go.step (fun tt kk => XS.iinc X0.here hx rfl (hb hby d15_41) rfl (l' := #[.val (.int ((((x ^^^ (-1 : Int32)) &&& (x - (1 : Int32))).toUInt32 >>> ((16 : Int32) &&& 31).toUInt32).toInt32)), .val (.int (25 : Int32))]) rfl kk) ?_
        show Go _ _ _ _ _ _ _ T0 (mkF m 44 #[.val (.int ((((x ^^^ (-1 : Int32)) &&& (x - (1 : Int32))).toUInt32 >>> ((16 : Int32) &&& 31).toUInt32).toInt32)), .val (.int (25 : Int32))] [])
        refine Go.step (fun tt kk => XS.iloadN X0.here hx rfl (hb hby d15_44) rfl kk) ?_
        show Go _ _ _ _ _ _ _ T0 (mkF m 45 #[.val (.int ((((x ^^^ (-1 : Int32)) &&& (x - (1 : Int32))).toUInt32 >>> ((16 : Int32) &&& 31).toUInt32).toInt32)), .val (.int (25 : Int32))] [(.int ((((x ^^^ (-1 : Int32)) &&& (x - (1 : Int32))).toUInt32 >>> ((16 : Int32) &&& 31).toUInt32).toInt32))])
        refine Go.step (fun tt kk => XS.bipush X0.here hx rfl (hb hby d15_45) kk) ?_
        show Go _ _ _ _ _ _ _ T0 (mkF m 47 #[.val (.int ((((x ^^^ (-1 : Int32)) &&& (x - (1 : Int32))).toUInt32 >>> ((16 : Int32) &&& 31).toUInt32).toInt32)), .val (.int (25 : Int32))] [(.int (8 : Int32)), (.int ((((x ^^^ (-1 : Int32)) &&& (x - (1 : Int32))).toUInt32 >>> ((16 : Int32) &&& 31).toUInt32).toInt32))])
        refine Go.step (fun tt kk => XS.iushr X0.here hx rfl (hb hby d15_47) rfl kk) ?_
        show Go _ _ _ _ _ _ _ T0 (mkF m 48 #[.val (.int ((((x ^^^ (-1 : Int32)) &&& (x - (1 : Int32))).toUInt32 >>> ((16 : Int32) &&& 31).toUInt32).toInt32)), .val (.int (25 : Int32))] [(.int ((((((x ^^^ (-1 : Int32)) &&& (x - (1 : Int32))).toUInt32 >>> ((16 : Int32) &&& 31).toUInt32).toInt32).toUInt32 >>> ((8 : Int32) &&& 31).toUInt32).toInt32))])
        refine Go.step (fun tt kk => XS.istoreN X0.here hx rfl (hb hby d15_48) rfl (l' := #[.val (.int ((((((x ^^^ (-1 : Int32)) &&& (x - (1 : Int32))).toUInt32 >>> ((16 : Int32) &&& 31).toUInt32).toInt32).toUInt32 >>> ((8 : Int32) &&& 31).toUInt32).toInt32)), .val (.int (25 : Int32))]) rfl kk) ?_
        show Go _ _ _ _ _ _ _ T0 (mkF m 49 #[.val (.int ((((((x ^^^ (-1 : Int32)) &&& (x - (1 : Int32))).toUInt32 >>> ((16 : Int32) &&& 31).toUInt32).toInt32).toUInt32 >>> ((8 : Int32) &&& 31).toUInt32).toInt32)), .val (.int (25 : Int32))] [])
        refine Go.step (fun tt kk => XS.iloadN X0.here hx rfl (hb hby d15_49) rfl kk) ?_
        show Go _ _ _ _ _ _ _ T0 (mkF m 50 #[.val (.int ((((((x ^^^ (-1 : Int32)) &&& (x - (1 : Int32))).toUInt32 >>> ((16 : Int32) &&& 31).toUInt32).toInt32).toUInt32 >>> ((8 : Int32) &&& 31).toUInt32).toInt32)), .val (.int (25 : Int32))] [(.int ((((((x ^^^ (-1 : Int32)) &&& (x - (1 : Int32))).toUInt32 >>> ((16 : Int32) &&& 31).toUInt32).toInt32).toUInt32 >>> ((8 : Int32) &&& 31).toUInt32).toInt32))])
        refine Go.step (fun tt kk => XS.bipush X0.here hx rfl (hb hby d15_50) kk) ?_
        show Go _ _ _ _ _ _ _ T0 (mkF m 52 #[.val (.int ((((((x ^^^ (-1 : Int32)) &&& (x - (1 : Int32))).toUInt32 >>> ((16 : Int32) &&& 31).toUInt32).toInt32).toUInt32 >>> ((8 : Int32) &&& 31).toUInt32).toInt32)), .val (.int (25 : Int32))] [(.int (16 : Int32)), (.int ((((((x ^^^ (-1 : Int32)) &&& (x - (1 : Int32))).toUInt32 >>> ((16 : Int32) &&& 31).toUInt32).toInt32).toUInt32 >>> ((8 : Int32) &&& 31).toUInt32).toInt32))])
        by_cases c52_4 : (16 : Int32) < ((((((x ^^^ (-1 : Int32)) &&& (x - (1 : Int32))).toUInt32 >>> ((16 : Int32) &&& 31).toUInt32).toInt32).toUInt32 >>> ((8 : Int32) &&& 31).toUInt32).toInt32)
        · refine Go.step (fun tt kk => XS.icmpNo X0.here hx rfl (hb hby d15_52) rfl (tlt c52_4).2.2.2 kk) ?_
          show Go _ _ _ _ _ _ _ T0 (mkF m 55 #[.val (.int ((((((x ^^^ (-1 : Int32)) &&& (x - (1 : Int32))).toUInt32 >>> ((16 : Int32) &&& 31).toUInt32).toInt32).toUInt32 >>> ((8 : Int32) &&& 31).toUInt32).toInt32)), .val (.int (25 : Int32))] [])
          refine Go.step (fun tt kk => XS.iinc X0.here hx rfl (hb hby d15_55) rfl (l' := #[.val (.int ((((((x ^^^ (-1 : Int32)) &&& (x - (1 : Int32))).toUInt32 >>> ((16 : Int32) &&& 31).toUInt32).toInt32).toUInt32 >>> ((8 : Int32) &&& 31).toUInt32).toInt32)), .val (.int (29 : Int32))]) rfl kk) ?_
          show Go _ _ _ _ _ _ _ T0 (mkF m 58 #[.val (.int ((((((x ^^^ (-1 : Int32)) &&& (x - (1 : Int32))).toUInt32 >>> ((16 : Int32) &&& 31).toUInt32).toInt32).toUInt32 >>> ((8 : Int32) &&& 31).toUInt32).toInt32)), .val (.int (29 : Int32))] [])
          refine Go.step (fun tt kk => XS.iloadN X0.here hx rfl (hb hby d15_58) rfl kk) ?_
          show Go _ _ _ _ _ _ _ T0 (mkF m 59 #[.val (.int ((((((x ^^^ (-1 : Int32)) &&& (x - (1 : Int32))).toUInt32 >>> ((16 : Int32) &&& 31).toUInt32).toInt32).toUInt32 >>> ((8 : Int32) &&& 31).toUInt32).toInt32)), .val (.int (29 : Int32))] [(.int ((((((x ^^^ (-1 : Int32)) &&& (x - (1 : Int32))).toUInt32 >>> ((16 : Int32) &&& 31).toUInt32).toInt32).toUInt32 >>> ((8 : Int32) &&& 31).toUInt32).toInt32))])
          refine Go.step (fun tt kk => XS.iconst X0.here hx rfl (hb hby d15_59) kk) ?_
          show Go _ _ _ _ _ _ _ T0 (mkF m 60 #[.val (.int ((((((x ^^^ (-1 : Int32)) &&& (x - (1 : Int32))).toUInt32 >>> ((16 : Int32) &&& 31).toUInt32).toInt32).toUInt32 >>> ((8 : Int32) &&& 31).toUInt32).toInt32)), .val (.int (29 : Int32))] [(.int (4 : Int32)), (.int ((((((x ^^^ (-1 : Int32)) &&& (x - (1 : Int32))).toUInt32 >>> ((16 : Int32) &&& 31).toUInt32).toInt32).toUInt32 >>> ((8 : Int32) &&& 31).toUInt32).toInt32))])
          refine Go.step (fun tt kk => XS.iushr X0.here hx rfl (hb hby d15_60) rfl kk) ?_
          show Go _ _ _ _ _ _ _ T0 (mkF m 61 #[.val (.int ((((((x ^^^ (-1 : Int32)) &&& (x - (1 : Int32))).toUInt32 >>> ((16 : Int32) &&& 31).toUInt32).toInt32).toUInt32 >>> ((8 : Int32) &&& 31).toUInt32).toInt32)), .val (.int (29 : Int32))] [(.int ((((((((x ^^^ (-1 : Int32)) &&& (x - (1 : Int32))).toUInt32 >>> ((16 : Int32) &&& 31).toUInt32).toInt32).toUInt32 >>> ((8 : Int32) &&& 31).toUInt32).toInt32).toUInt32 >>> ((4 : Int32) &&& 31).toUInt32).toInt32))])
          refine Go.step (fun tt kk => XS.istoreN X0.here hx rfl (hb hby d15_61) rfl (l' := #[.val (.int ((((((((x ^^^ (-1 : Int32)) &&& (x - (1 : Int32))).toUInt32 >>> ((16 : Int32) &&& 31).toUInt32).toInt32).toUInt32 >>> ((8 : Int32) &&& 31).toUInt32).toInt32).toUInt32 >>> ((4 : Int32) &&& 31).toUInt32).toInt32)), .val (.int (29 : Int32))]) rfl kk) ?_
          show Go _ _ _ _ _ _ _ T0 (mkF m 62 #[.val (.int ((((((((x ^^^ (-1 : Int32)) &&& (x - (1 : Int32))).toUInt32 >>> ((16 : Int32) &&& 31).toUInt32).toInt32).toUInt32 >>> ((8 : Int32) &&& 31).toUInt32).toInt32).toUInt32 >>> ((4 : Int32) &&& 31).toUInt32).toInt32)), .val (.int (29 : Int32))] [])
          refine Go.step (fun tt kk => XS.iloadN X0.here hx rfl (hb hby d15_62) rfl kk) ?_
          show Go _ _ _ _ _ _ _ T0 (mkF m 63 #[.val (.int ((((((((x ^^^ (-1 : Int32)) &&& (x - (1 : Int32))).toUInt32 >>> ((16 : Int32) &&& 31).toUInt32).toInt32).toUInt32 >>> ((8 : Int32) &&& 31).toUInt32).toInt32).toUInt32 >>> ((4 : Int32) &&& 31).toUInt32).toInt32)), .val (.int (29 : Int32))] [(.int ((((((((x ^^^ (-1 : Int32)) &&& (x - (1 : Int32))).toUInt32 >>> ((16 : Int32) &&& 31).toUInt32).toInt32).toUInt32 >>> ((8 : Int32) &&& 31).toUInt32).toInt32).toUInt32 >>> ((4 : Int32) &&& 31).toUInt32).toInt32))])
          refine Go.step (fun tt kk => XS.iconst X0.here hx rfl (hb hby d15_63) kk) ?_
          show Go _ _ _ _ _ _ _ T0 (mkF m 64 #[.val (.int ((((((((x ^^^ (-1 : Int32)) &&& (x - (1 : Int32))).toUInt32 >>> ((16 : Int32) &&& 31).toUInt32).toInt32).toUInt32 >>> ((8 : Int32) &&& 31).toUInt32).toInt32).toUInt32 >>> ((4 : Int32) &&& 31).toUInt32).toInt32)), .val (.int (29 : Int32))] [(.int (4 : Int32)), (.int ((((((((x ^^^ (-1 : Int32)) &&& (x - (1 : Int32))).toUInt32 >>> ((16 : Int32) &&& 31).toUInt32).toInt32).toUInt32 >>> ((8 : Int32) &&& 31).toUInt32).toInt32).toUInt32 >>> ((4 : Int32) &&& 31).toUInt32).toInt32))])
          by_cases c64_5 : (4 : Int32) < ((((((((x ^^^ (-1 : Int32)) &&& (x - (1 : Int32))).toUInt32 >>> ((16 : Int32) &&& 31).toUInt32).toInt32).toUInt32 >>> ((8 : Int32) &&& 31).toUInt32).toInt32).toUInt32 >>> ((4 : Int32) &&& 31).toUInt32).toInt32)
          · refine Go.step (fun tt kk => XS.icmpNo X0.here hx rfl (hb hby d15_64) rfl (tlt c64_5).2.2.2 kk) ?_
            show Go _ _ _ _ _ _ _ T0 (mkF m 67 #[.val (.int ((((((((x ^^^ (-1 : Int32)) &&& (x - (1 : Int32))).toUInt32 >>> ((16 : Int32) &&& 31).toUInt32).toInt32).toUInt32 >>> ((8 : Int32) &&& 31).toUInt32).toInt32).toUInt32 >>> ((4 : Int32) &&& 31).toUInt32).toInt32)), .val (.int (29 : Int32))] [])
            refine Go.step (fun tt kk => XS.iinc X0.here hx rfl (hb hby d15_67) rfl (l' := #[.val (.int ((((((((x ^^^ (-1 : Int32)) &&& (x - (1 : Int32))).toUInt32 >>> ((16 : Int32) &&& 31).toUInt32).toInt32).toUInt32 >>> ((8 : Int32) &&& 31).toUInt32).toInt32).toUInt32 >>> ((4 : Int32) &&& 31).toUInt32).toInt32)), .val (.int (31 : Int32))]) rfl kk) ?_
            show Go _ _ _ _ _ _ _ T0 (mkF m 70 #[.val (.int ((((((((x ^^^ (-1 : Int32)) &&& (x - (1 : Int32))).toUInt32 >>> ((16 : Int32) &&& 31).toUInt32).toInt32).toUInt32 >>> ((8 : Int32) &&& 31).toUInt32).toInt32).toUInt32 >>> ((4 : Int32) &&& 31).toUInt32).toInt32)), .val (.int (31 : Int32))] [])
            refine Go.step (fun tt kk => XS.iloadN X0.here hx rfl (hb hby d15_70) rfl kk) ?_
            show Go _ _ _ _ _ _ _ T0 (mkF m 71 #[.val (.int ((((((((x ^^^ (-1 : Int32)) &&& (x - (1 : Int32))).toUInt32 >>> ((16 : Int32) &&& 31).toUInt32).toInt32).toUInt32 >>> ((8 : Int32) &&& 31).toUInt32).toInt32).toUInt32 >>> ((4 : Int32) &&& 31).toUInt32).toInt32)), .val (.int (31 : Int32))] [(.int ((((((((x ^^^ (-1 : Int32)) &&& (x - (1 : Int32))).toUInt32 >>> ((16 : Int32) &&& 31).toUInt32).toInt32).toUInt32 >>> ((8 : Int32) &&& 31).toUInt32).toInt32).toUInt32 >>> ((4 : Int32) &&& 31).toUInt32).toInt32))])
            refine Go.step (fun tt kk => XS.iconst X0.here hx rfl (hb hby d15_71) kk) ?_
            show Go _ _ _ _ _ _ _ T0 (mkF m 72 #[.val (.int ((((((((x ^^^ (-1 : Int32)) &&& (x - (1 : Int32))).toUInt32 >>> ((16 : Int32) &&& 31).toUInt32).toInt32).toUInt32 >>> ((8 : Int32) &&& 31).toUInt32).toInt32).toUInt32 >>> ((4 : Int32) &&& 31).toUInt32).toInt32)), .val (.int (31 : Int32))] [(.int (2 : Int32)), (.int ((((((((x ^^^ (-1 : Int32)) &&& (x - (1 : Int32))).toUInt32 >>> ((16 : Int32) &&& 31).toUInt32).toInt32).toUInt32 >>> ((8 : Int32) &&& 31).toUInt32).toInt32).toUInt32 >>> ((4 : Int32) &&& 31).toUInt32).toInt32))])
            refine Go.step (fun tt kk => XS.iushr X0.here hx rfl (hb hby d15_72) rfl kk) ?_
            show Go _ _ _ _ _ _ _ T0 (mkF m 73 #[.val (.int ((((((((x ^^^ (-1 : Int32)) &&& (x - (1 : Int32))).toUInt32 >>> ((16 : Int32) &&& 31).toUInt32).toInt32).toUInt32 >>> ((8 : Int32) &&& 31).toUInt32).toInt32).toUInt32 >>> ((4 : Int32) &&& 31).toUInt32).toInt32)), .val (.int (31 : Int32))] [(.int ((((((((((x ^^^ (-1 : Int32)) &&& (x - (1 : Int32))).toUInt32 >>> ((16 : Int32) &&& 31).toUInt32).toInt32).toUInt32 >>> ((8 : Int32) &&& 31).toUInt32).toInt32).toUInt32 >>> ((4 : Int32) &&& 31).toUInt32).toInt32).toUInt32 >>> ((2 : Int32) &&& 31).toUInt32).toInt32))])
            refine Go.step (fun tt kk => XS.istoreN X0.here hx rfl (hb hby d15_73) rfl (l' := #[.val (.int ((((((((((x ^^^ (-1 : Int32)) &&& (x - (1 : Int32))).toUInt32 >>> ((16 : Int32) &&& 31).toUInt32).toInt32).toUInt32 >>> ((8 : Int32) &&& 31).toUInt32).toInt32).toUInt32 >>> ((4 : Int32) &&& 31).toUInt32).toInt32).toUInt32 >>> ((2 : Int32) &&& 31).toUInt32).toInt32)), .val (.int (31 : Int32))]) rfl kk) ?_
            show Go _ _ _ _ _ _ _ T0 (mkF m 74 #[.val (.int ((((((((((x ^^^ (-1 : Int32)) &&& (x - (1 : Int32))).toUInt32 >>> ((16 : Int32) &&& 31).toUInt32).toInt32).toUInt32 >>> ((8 : Int32) &&& 31).toUInt32).toInt32).toUInt32 >>> ((4 : Int32) &&& 31).toUInt32).toInt32).toUInt32 >>> ((2 : Int32) &&& 31).toUInt32).toInt32)), .val (.int (31 : Int32))] [])
            refine Go.step (fun tt kk => XS.iloadN X0.here hx rfl (hb hby d15_74) rfl kk) ?_
            show Go _ _ _ _ _ _ _ T0 (mkF m 75 #[.val (.int ((((((((((x ^^^ (-1 : Int32)) &&& (x - (1 : Int32))).toUInt32 >>> ((16 : Int32) &&& 31).toUInt32).toInt32).toUInt32 >>> ((8 : Int32) &&& 31).toUInt32).toInt32).toUInt32 >>> ((4 : Int32) &&& 31).toUInt32).toInt32).toUInt32 >>> ((2 : Int32) &&& 31).toUInt32).toInt32)), .val (.int (31 : Int32))] [(.int (31 : Int32))])
            refine Go.step (fun tt kk => XS.iloadN X0.here hx rfl (hb hby d15_75) rfl kk) ?_
            show Go _ _ _ _ _ _ _ T0 (mkF m 76 #[.val (.int ((((((((((x ^^^ (-1 : Int32)) &&& (x - (1 : Int32))).toUInt32 >>> ((16 : Int32) &&& 31).toUInt32).toInt32).toUInt32 >>> ((8 : Int32) &&& 31).toUInt32).toInt32).toUInt32 >>> ((4 : Int32) &&& 31).toUInt32).toInt32).toUInt32 >>> ((2 : Int32) &&& 31).toUInt32).toInt32)), .val (.int (31 : Int32))] [(.int ((((((((((x ^^^ (-1 : Int32)) &&& (x - (1 : Int32))).toUInt32 >>> ((16 : Int32) &&& 31).toUInt32).toInt32).toUInt32 >>> ((8 : Int32) &&& 31).toUInt32).toInt32).toUInt32 >>> ((4 : Int32) &&& 31).toUInt32).toInt32).toUInt32 >>> ((2 : Int32) &&& 31).toUInt32).toInt32)), (.int (31 : Int32))])
            refine Go.step (fun tt kk => XS.iconst X0.here hx rfl (hb hby d15_76) kk) ?_
            show Go _ _ _ _ _ _ _ T0 (mkF m 77 #[.val (.int ((((((((((x ^^^ (-1 : Int32)) &&& (x - (1 : Int32))).toUInt32 >>> ((16 : Int32) &&& 31).toUInt32).toInt32).toUInt32 >>> ((8 : Int32) &&& 31).toUInt32).toInt32).toUInt32 >>> ((4 : Int32) &&& 31).toUInt32).toInt32).toUInt32 >>> ((2 : Int32) &&& 31).toUInt32).toInt32)), .val (.int (31 : Int32))] [(.int (1 : Int32)), (.int ((((((((((x ^^^ (-1 : Int32)) &&& (x - (1 : Int32))).toUInt32 >>> ((16 : Int32) &&& 31).toUInt32).toInt32).toUInt32 >>> ((8 : Int32) &&& 31).toUInt32).toInt32).toUInt32 >>> ((4 : Int32) &&& 31).toUInt32).toInt32).toUInt32 >>> ((2 : Int32) &&& 31).toUInt32).toInt32)), (.int (31 : Int32))])
            refine Go.step (fun tt kk => XS.iushr X0.here hx rfl (hb hby d15_77) rfl kk) ?_
            show Go _ _ _ _ _ _ _ T0 (mkF m 78 #[.val (.int ((((((((((x ^^^ (-1 : Int32)) &&& (x - (1 : Int32))).toUInt32 >>> ((16 : Int32) &&& 31).toUInt32).toInt32).toUInt32 >>> ((8 : Int32) &&& 31).toUInt32).toInt32).toUInt32 >>> ((4 : Int32) &&& 31).toUInt32).toInt32).toUInt32 >>> ((2 : Int32) &&& 31).toUInt32).toInt32)), .val (.int (31 : Int32))] [(.int ((((((((((((x ^^^ (-1 : Int32)) &&& (x - (1 : Int32))).toUInt32 >>> ((16 : Int32) &&& 31).toUInt32).toInt32).toUInt32 >>> ((8 : Int32) &&& 31).toUInt32).toInt32).toUInt32 >>> ((4 : Int32) &&& 31).toUInt32).toInt32).toUInt32 >>> ((2 : Int32) &&& 31).toUInt32).toInt32).toUInt32 >>> ((1 : Int32) &&& 31).toUInt32).toInt32)), (.int (31 : Int32))])
            refine Go.step (fun tt kk => XS.iadd X0.here hx rfl (hb hby d15_78) rfl kk) ?_
            show Go _ _ _ _ _ _ _ T0 (mkF m 79 #[.val (.int ((((((((((x ^^^ (-1 : Int32)) &&& (x - (1 : Int32))).toUInt32 >>> ((16 : Int32) &&& 31).toUInt32).toInt32).toUInt32 >>> ((8 : Int32) &&& 31).toUInt32).toInt32).toUInt32 >>> ((4 : Int32) &&& 31).toUInt32).toInt32).toUInt32 >>> ((2 : Int32) &&& 31).toUInt32).toInt32)), .val (.int (31 : Int32))] [(.int ((31 : Int32) + ((((((((((((x ^^^ (-1 : Int32)) &&& (x - (1 : Int32))).toUInt32 >>> ((16 : Int32) &&& 31).toUInt32).toInt32).toUInt32 >>> ((8 : Int32) &&& 31).toUInt32).toInt32).toUInt32 >>> ((4 : Int32) &&& 31).toUInt32).toInt32).toUInt32 >>> ((2 : Int32) &&& 31).toUInt32).toInt32).toUInt32 >>> ((1 : Int32) &&& 31).toUInt32).toInt32)))])
            refine go_retI X0 hx hret hlk (hb hby d15_79) ?_ (by decide) (by decide)
            try rw [e0]
            exact ⟨congrArg (fun z => some (Value.int z)) (by simp only [ntzI, n1, n2, n3, n4, i1, i2, i3, i4, us, z0, eq_true c9_1, eq_true c23_2, eq_true c38_3, eq_true c52_4, eq_true c64_5, if_true, if_false, Int32.reduceAdd]), rfl, rfl⟩
          · refine Go.step (fun tt kk => XS.icmpYes X0.here hx rfl (pc0 := 64) (pc' := 74) rfl (hb hby d15_64) rfl (flt c64_5).2.2.2 (by decide) (by decide) kk) ?_
            show Go _ _ _ _ _ _ _ T0 (mkF m 74 #[.val (.int ((((((((x ^^^ (-1 : Int32)) &&& (x - (1 : Int32))).toUInt32 >>> ((16 : Int32) &&& 31).toUInt32).toInt32).toUInt32 >>> ((8 : Int32) &&& 31).toUInt32).toInt32).toUInt32 >>> ((4 : Int32) &&& 31).toUInt32).toInt32)), .val (.int (29 : Int32))] [])
            refine Go.step (fun tt kk => XS.iloadN X0.here hx rfl (hb hby d15_74) rfl kk) ?_
            show Go _ _ _ _ _ _ _ T0 (mkF m 75 #[.val (.int ((((((((x ^^^ (-1 : Int32)) &&& (x - (1 : Int32))).toUInt32 >>> ((16 : Int32) &&& 31).toUInt32).toInt32).toUInt32 >>> ((8 : Int32) &&& 31).toUInt32).toInt32).toUInt32 >>> ((4 : Int32) &&& 31).toUInt32).toInt32)), .val (.int (29 : Int32))] [(.int (29 : Int32))])
            refine Go.step (fun tt kk => XS.iloadN X0.here hx rfl (hb hby d15_75) rfl kk) ?_
            show Go _ _ _ _ _ _ _ T0 (mkF m 76 #[.val (.int ((((((((x ^^^ (-1 : Int32)) &&& (x - (1 : Int32))).toUInt32 >>> ((16 : Int32) &&& 31).toUInt32).toInt32).toUInt32 >>> ((8 : Int32) &&& 31).toUInt32).toInt32).toUInt32 >>> ((4 : Int32) &&& 31).toUInt32).toInt32)), .val (.int (29 : Int32))] [(.int ((((((((x ^^^ (-1 : Int32)) &&& (x - (1 : Int32))).toUInt32 >>> ((16 : Int32) &&& 31).toUInt32).toInt32).toUInt32 >>> ((8 : Int32) &&& 31).toUInt32).toInt32).toUInt32 >>> ((4 : Int32) &&& 31).toUInt32).toInt32)), (.int (29 : Int32))])
            refine Go.step (fun tt kk => XS.iconst X0.here hx rfl (hb hby d15_76) kk) ?_
            show Go _ _ _ _ _ _ _ T0 (mkF m 77 #[.val (.int ((((((((x ^^^ (-1 : Int32)) &&& (x - (1 : Int32))).toUInt32 >>> ((16 : Int32) &&& 31).toUInt32).toInt32).toUInt32 >>> ((8 : Int32) &&& 31).toUInt32).toInt32).toUInt32 >>> ((4 : Int32) &&& 31).toUInt32).toInt32)), .val (.int (29 : Int32))] [(.int (1 : Int32)), (.int ((((((((x ^^^ (-1 : Int32)) &&& (x - (1 : Int32))).toUInt32 >>> ((16 : Int32) &&& 31).toUInt32).toInt32).toUInt32 >>> ((8 : Int32) &&& 31).toUInt32).toInt32).toUInt32 >>> ((4 : Int32) &&& 31).toUInt32).toInt32)), (.int (29 : Int32))])
            refine Go.step (fun tt kk => XS.iushr X0.here hx rfl (hb hby d15_77) rfl kk) ?_
            show Go _ _ _ _ _ _ _ T0 (mkF m 78 #[.val (.int ((((((((x ^^^ (-1 : Int32)) &&& (x - (1 : Int32))).toUInt32 >>> ((16 : Int32) &&& 31).toUInt32).toInt32).toUInt32 >>> ((8 : Int32) &&& 31).toUInt32).toInt32).toUInt32 >>> ((4 : Int32) &&& 31).toUInt32).toInt32)), .val (.int (29 : Int32))] [(.int ((((((((((x ^^^ (-1 : Int32)) &&& (x - (1 : Int32))).toUInt32 >>> ((16 : Int32) &&& 31).toUInt32).toInt32).toUInt32 >>> ((8 : Int32) &&& 31).toUInt32).toInt32).toUInt32 >>> ((4 : Int32) &&& 31).toUInt32).toInt32).toUInt32 >>> ((1 : Int32) &&& 31).toUInt32).toInt32)), (.int (29 : Int32))])
            refine Go.step (fun tt kk => XS.iadd X0.here hx rfl (hb hby d15_78) rfl kk) ?_
            show Go _ _ _ _ _ _ _ T0 (mkF m 79 #[.val (.int ((((((((x ^^^ (-1 : Int32)) &&& (x - (1 : Int32))).toUInt32 >>> ((16 : Int32) &&& 31).toUInt32).toInt32).toUInt32 >>> ((8 : Int32) &&& 31).toUInt32).toInt32).toUInt32 >>> ((4 : Int32) &&& 31).toUInt32).toInt32)), .val (.int (29 : Int32))] [(.int ((29 : Int32) + ((((((((((x ^^^ (-1 : Int32)) &&& (x - (1 : Int32))).toUInt32 >>> ((16 : Int32) &&& 31).toUInt32).toInt32).toUInt32 >>> ((8 : Int32) &&& 31).toUInt32).toInt32).toUInt32 >>> ((4 : Int32) &&& 31).toUInt32).toInt32).toUInt32 >>> ((1 : Int32) &&& 31).toUInt32).toInt32)))])
            refine go_retI X0 hx hret hlk (hb hby d15_79) ?_ (by decide) (by decide)
            try rw [e0]
            exact ⟨congrArg (fun z => some (Value.int z)) (by simp only [ntzI, n1, n2, n3, n4, i1, i2, i3, i4, us, z0, eq_true c9_1, eq_true c23_2, eq_true c38_3, eq_true c52_4, eq_false c64_5, if_true, if_false, Int32.reduceAdd]), rfl, rfl⟩
        · refine Go.step (fun tt kk => XS.icmpYes X0.here hx rfl (pc0 := 52) (pc' := 62) rfl (hb hby d15_52) rfl (flt c52_4).2.2.2 (by decide) (by decide) kk) ?_
          show Go _ _ _ _ _ _ _ T0 (mkF m 62 #[.val (.int ((((((x ^^^ (-1 : Int32)) &&& (x - (1 : Int32))).toUInt32 >>> ((16 : Int32) &&& 31).toUInt32).toInt32).toUInt32 >>> ((8 : Int32) &&& 31).toUInt32).toInt32)), .val (.int (25 : Int32))] [])
          refine Go.step (fun tt kk => XS.iloadN X0.here hx rfl (hb hby d15_62) rfl kk) ?_
          show Go _ _ _ _ _ _ _ T0 (mkF m 63 #[.val (.int ((((((x ^^^ (-1 : Int32)) &&& (x - (1 : Int32))).toUInt32 >>> ((16 : Int32) &&& 31).toUInt32).toInt32).toUInt32 >>> ((8 : Int32) &&& 31).toUInt32).toInt32)), .val (.int (25 : Int32))] [(.int ((((((x ^^^ (-1 : Int32)) &&& (x - (1 : Int32))).toUInt32 >>> ((16 : Int32) &&& 31).toUInt32).toInt32).toUInt32 >>> ((8 : Int32) &&& 31).toUInt32).toInt32))])
          refine Go.step (fun tt kk => XS.iconst X0.here hx rfl (hb hby d15_63) kk) ?_
          show Go _ _ _ _ _ _ _ T0 (mkF m 64 #[.val (.int ((((((x ^^^ (-1 : Int32)) &&& (x - (1 : Int32))).toUInt32 >>> ((16 : Int32) &&& 31).toUInt32).toInt32).toUInt32 >>> ((8 : Int32) &&& 31).toUInt32).toInt32)), .val (.int (25 : Int32))] [(.int (4 : Int32)), (.int ((((((x ^^^ (-1 : Int32)) &&& (x - (1 : Int32))).toUInt32 >>> ((16 : Int32) &&& 31).toUInt32).toInt32).toUInt32 >>> ((8 : Int32) &&& 31).toUInt32).toInt32))])
          by_cases c64_6 : (4 : Int32) < ((((((x ^^^ (-1 : Int32)) &&& (x - (1 : Int32))).toUInt32 >>> ((16 : Int32) &&& 31).toUInt32).toInt32).toUInt32 >>> ((8 : Int32) &&& 31).toUInt32).toInt32)
          · refine Go.step (fun tt kk => XS.icmpNo X0.here hx rfl (hb hby d15_64) rfl (tlt c64_6).2.2.2 kk) ?_
            show Go _ _ _ _ _ _ _ T0 (mkF m 67 #[.val (.int ((((((x ^^^ (-1 : Int32)) &&& (x - (1 : Int32))).toUInt32 >>> ((16 : Int32) &&& 31).toUInt32).toInt32).toUInt32 >>> ((8 : Int32) &&& 31).toUInt32).toInt32)), .val (.int (25 : Int32))] [])
            refine Go.step (fun tt kk => XS.iinc X0.here hx rfl (hb hby d15_67) rfl (l' := #[.val (.int ((((((x ^^^ (-1 : Int32)) &&& (x - (1 : Int32))).toUInt32 >>> ((16 : Int32) &&& 31).toUInt32).toInt32).toUInt32 >>> ((8 : Int32) &&& 31).toUInt32).toInt32)), .val (.int (27 : Int32))]) rfl kk) ?_
            show Go _ _ _ _ _ _ _ T0 (mkF m 70 #[.val (.int ((((((x ^^^ (-1 : Int32)) &&& (x - (1 : Int32))).toUInt32 >>> ((16 : Int32) &&& 31).toUInt32).toInt32).toUInt32 >>> ((8 : Int32) &&& 31).toUInt32).toInt32)), .val (.int (27 : Int32))] [])
            refine Go.step (fun tt kk => XS.iloadN X0.here hx rfl (hb hby d15_70) rfl kk) ?_
            show Go _ _ _ _ _ _ _ T0 (mkF m 71 #[.val (.int ((((((x ^^^ (-1 : Int32)) &&& (x - (1 : Int32))).toUInt32 >>> ((16 : Int32) &&& 31).toUInt32).toInt32).toUInt32 >>> ((8 : Int32) &&& 31).toUInt32).toInt32)), .val (.int (27 : Int32))] [(.int ((((((x ^^^ (-1 : Int32)) &&& (x - (1 : Int32))).toUInt32 >>> ((16 : Int32) &&& 31).toUInt32).toInt32).toUInt32 >>> ((8 : Int32) &&& 31).toUInt32).toInt32))])
            refine Go.step (fun tt kk => XS.iconst X0.here hx rfl (hb hby d15_71) kk) ?_
            show Go _ _ _ _ _ _ _ T0 (mkF m 72 #[.val (.int ((((((x ^^^ (-1 : Int32)) &&& (x - (1 : Int32))).toUInt32 >>> ((16 : Int32) &&& 31).toUInt32).toInt32).toUInt32 >>> ((8 : Int32) &&& 31).toUInt32).toInt32)), .val (.int (27 : Int32))] [(.int (2 : Int32)), (.int ((((((x ^^^ (-1 : Int32)) &&& (x - (1 : Int32))).toUInt32 >>> ((16 : Int32) &&& 31).toUInt32).toInt32).toUInt32 >>> ((8 : Int32) &&& 31).toUInt32).toInt32))])
            refine Go.step (fun tt kk => XS.iushr X0.here hx rfl (hb hby d15_72) rfl kk) ?_
            show Go _ _ _ _ _ _ _ T0 (mkF m 73 #[.val (.int ((((((x ^^^ (-1 : Int32)) &&& (x - (1 : Int32))).toUInt32 >>> ((16 : Int32) &&& 31).toUInt32).toInt32).toUInt32 >>> ((8 : Int32) &&& 31).toUInt32).toInt32)), .val (.int (27 : Int32))] [(.int ((((((((x ^^^ (-1 : Int32)) &&& (x - (1 : Int32))).toUInt32 >>> ((16 : Int32) &&& 31).toUInt32).toInt32).toUInt32 >>> ((8 : Int32) &&& 31).toUInt32).toInt32).toUInt32 >>> ((2 : Int32) &&& 31).toUInt32).toInt32))])
            refine Go.step (fun tt kk => XS.istoreN X0.here hx rfl (hb hby d15_73) rfl (l' := #[.val (.int ((((((((x ^^^ (-1 : Int32)) &&& (x - (1 : Int32))).toUInt32 >>> ((16 : Int32) &&& 31).toUInt32).toInt32).toUInt32 >>> ((8 : Int32) &&& 31).toUInt32).toInt32).toUInt32 >>> ((2 : Int32) &&& 31).toUInt32).toInt32)), .val (.int (27 : Int32))]) rfl kk) ?_
            show Go _ _ _ _ _ _ _ T0 (mkF m 74 #[.val (.int ((((((((x ^^^ (-1 : Int32)) &&& (x - (1 : Int32))).toUInt32 >>> ((16 : Int32) &&& 31).toUInt32).toInt32).toUInt32 >>> ((8 : Int32) &&& 31).toUInt32).toInt32).toUInt32 >>> ((2 : Int32) &&& 31).toUInt32).toInt32)), .val (.int (27 : Int32))] [])
            refine Go.step (fun tt kk => XS.iloadN X0.here hx rfl (hb hby d15_74) rfl kk) ?_
            show Go _ _ _ _ _ _ _ T0 (mkF m 75 #[.val (.int ((((((((x ^^^ (-1 : Int32)) &&& (x - (1 : Int32))).toUInt32 >>> ((16 : Int32) &&& 31).toUInt32).toInt32).toUInt32 >>> ((8 : Int32) &&& 31).toUInt32).toInt32).toUInt32 >>> ((2 : Int32) &&& 31).toUInt32).toInt32)), .val (.int (27 : Int32))] [(.int (27 : Int32))])
            refine Go.step (fun tt kk => XS.iloadN X0.here hx rfl (hb hby d15_75) rfl kk) ?_
            show Go _ _ _ _ _ _ _ T0 (mkF m 76 #[.val (.int ((((((((x ^^^ (-1 : Int32)) &&& (x - (1 : Int32))).toUInt32 >>> ((16 : Int32) &&& 31).toUInt32).toInt32).toUInt32 >>> ((8 : Int32) &&& 31).toUInt32).toInt32).toUInt32 >>> ((2 : Int32) &&& 31).toUInt32).toInt32)), .val (.int (27 : Int32))] [(.int ((((((((x ^^^ (-1 : Int32)) &&& (x - (1 : Int32))).toUInt32 >>> ((16 : Int32) &&& 31).toUInt32).toInt32).toUInt32 >>> ((8 : Int32) &&& 31).toUInt32).toInt32).toUInt32 >>> ((2 : Int32) &&& 31).toUInt32).toInt32)), (.int (27 : Int32))])
            refine Go.step (fun tt kk => XS.iconst X0.here hx rfl (hb hby d15_76) kk) ?_
            show Go _ _ _ _ _ _ _ T0 (mkF m 77 #[.val (.int ((((((((x ^^^ (-1 : Int32)) &&& (x - (1 : Int32))).toUInt32 >>> ((16 : Int32) &&& 31).toUInt32).toInt32).toUInt32 >>> ((8 : Int32) &&& 31).toUInt32).toInt32).toUInt32 >>> ((2 : Int32) &&& 31).toUInt32).toInt32)), .val (.int (27 : Int32))] [(.int (1 : Int32)), (.int ((((((((x ^^^ (-1 : Int32)) &&& (x - (1 : Int32))).toUInt32 >>> ((16 : Int32) &&& 31).toUInt32).toInt32).toUInt32 >>> ((8 : Int32) &&& 31).toUInt32).toInt32).toUInt32 >>> ((2 : Int32) &&& 31).toUInt32).toInt32)), (.int (27 : Int32))])
            refine Go.step (fun tt kk => XS.iushr X0.here hx rfl (hb hby d15_77) rfl kk) ?_
            show Go _ _ _ _ _ _ _ T0 (mkF m 78 #[.val (.int ((((((((x ^^^ (-1 : Int32)) &&& (x - (1 : Int32))).toUInt32 >>> ((16 : Int32) &&& 31).toUInt32).toInt32).toUInt32 >>> ((8 : Int32) &&& 31).toUInt32).toInt32).toUInt32 >>> ((2 : Int32) &&& 31).toUInt32).toInt32)), .val (.int (27 : Int32))] [(.int ((((((((((x ^^^ (-1 : Int32)) &&& (x - (1 : Int32))).toUInt32 >>> ((16 : Int32) &&& 31).toUInt32).toInt32).toUInt32 >>> ((8 : Int32) &&& 31).toUInt32).toInt32).toUInt32 >>> ((2 : Int32) &&& 31).toUInt32).toInt32).toUInt32 >>> ((1 : Int32) &&& 31).toUInt32).toInt32)), (.int (27 : Int32))])
            refine Go.step (fun tt kk => XS.iadd X0.here hx rfl (hb hby d15_78) rfl kk) ?_
            show Go _ _ _ _ _ _ _ T0 (mkF m 79 #[.val (.int ((((((((x ^^^ (-1 : Int32)) &&& (x - (1 : Int32))).toUInt32 >>> ((16 : Int32) &&& 31).toUInt32).toInt32).toUInt32 >>> ((8 : Int32) &&& 31).toUInt32).toInt32).toUInt32 >>> ((2 : Int32) &&& 31).toUInt32).toInt32)), .val (.int (27 : Int32))] [(.int ((27 : Int32) + ((((((((((x ^^^ (-1 : Int32)) &&& (x - (1 : Int32))).toUInt32 >>> ((16 : Int32) &&& 31).toUInt32).toInt32).toUInt32 >>> ((8 : Int32) &&& 31).toUInt32).toInt32).toUInt32 >>> ((2 : Int32) &&& 31).toUInt32).toInt32).toUInt32 >>> ((1 : Int32) &&& 31).toUInt32).toInt32)))])
            refine go_retI X0 hx hret hlk (hb hby d15_79) ?_ (by decide) (by decide)
            try rw [e0]
            exact ⟨congrArg (fun z => some (Value.int z)) (by simp only [ntzI, n1, n2, n3, n4, i1, i2, i3, i4, us, z0, eq_true c9_1, eq_true c23_2, eq_true c38_3, eq_false c52_4, eq_true c64_6, if_true, if_false, Int32.reduceAdd]), rfl, rfl⟩
          · refine Go.step (fun tt kk => XS.icmpYes X0.here hx rfl (pc0 := 64) (pc' := 74) rfl (hb hby d15_64) rfl (flt c64_6).2.2.2 (by decide) (by decide) kk) ?_
            show Go _ _ _ _ _ _ _ T0 (mkF m 74 #[.val (.int ((((((x ^^^ (-1 : Int32)) &&& (x - (1 : Int32))).toUInt32 >>> ((16 : Int32) &&& 31).toUInt32).toInt32).toUInt32 >>> ((8 : Int32) &&& 31).toUInt32).toInt32)), .val (.int (25 : Int32))] [])
            refine Go.step (fun tt kk => XS.iloadN X0.here hx rfl (hb hby d15_74) rfl kk) ?_
            show Go _ _ _ _ _ _ _ T0 (mkF m 75 #[.val (.int ((((((x ^^^ (-1 : Int32)) &&& (x - (1 : Int32))).toUInt32 >>> ((16 : Int32) &&& 31).toUInt32).toInt32).toUInt32 >>> ((8 : Int32) &&& 31).toUInt32).toInt32)), .val (.int (25 : Int32))] [(.int (25 : Int32))])
            refine Go.step (fun tt kk => XS.iloadN X0.here hx rfl (hb hby d15_75) rfl kk) ?_
            show Go _ _ _ _ _ _ _ T0 (mkF m 76 #[.val (.int ((((((x ^^^ (-1 : Int32)) &&& (x - (1 : Int32))).toUInt32 >>> ((16 : Int32) &&& 31).toUInt32).toInt32).toUInt32 >>> ((8 : Int32) &&& 31).toUInt32).toInt32)), .val (.int (25 : Int32))] [(.int ((((((x ^^^ (-1 : Int32)) &&& (x - (1 : Int32))).toUInt32 >>> ((16 : Int32) &&& 31).toUInt32).toInt32).toUInt32 >>> ((8 : Int32) &&& 31).toUInt32).toInt32)), (.int (25 : Int32))])
            refine Go.step (fun tt kk => XS.iconst X0.here hx rfl (hb hby d15_76) kk) ?_
            show Go _ _ _ _ _ _ _ T0 (mkF m 77 #[.val (.int ((((((x ^^^ (-1 : Int32)) &&& (x - (1 : Int32))).toUInt32 >>> ((16 : Int32) &&& 31).toUInt32).toInt32).toUInt32 >>> ((8 : Int32) &&& 31).toUInt32).toInt32)), .val (.int (25 : Int32))] [(.int (1 : Int32)), (.int ((((((x ^^^ (-1 : Int32)) &&& (x - (1 : Int32))).toUInt32 >>> ((16 : Int32) &&& 31).toUInt32).toInt32).toUInt32 >>> ((8 : Int32) &&& 31).toUInt32).toInt32)), (.int (25 : Int32))])
            refine Go.step (fun tt kk => XS.iushr X0.here hx rfl (hb hby d15_77) rfl kk) ?_
            show Go _ _ _ _ _ _ _ T0 (mkF m 78 #[.val (.int ((((((x ^^^ (-1 : Int32)) &&& (x - (1 : Int32))).toUInt32 >>> ((16 : Int32) &&& 31).toUInt32).toInt32).toUInt32 >>> ((8 : Int32) &&& 31).toUInt32).toInt32)), .val (.int (25 : Int32))] [(.int ((((((((x ^^^ (-1 : Int32)) &&& (x - (1 : Int32))).toUInt32 >>> ((16 : Int32) &&& 31).toUInt32).toInt32).toUInt32 >>> ((8 : Int32) &&& 31).toUInt32).toInt32).toUInt32 >>> ((1 : Int32) &&& 31).toUInt32).toInt32)), (.int (25 : Int32))])
            refine Go.step (fun tt kk => XS.iadd X0.here hx rfl (hb hby d15_78) rfl kk) ?_
            show Go _ _ _ _ _ _ _ T0 (mkF m 79 #[.val (.int ((((((x ^^^ (-1 : Int32)) &&& (x - (1 : Int32))).toUInt32 >>> ((16 : Int32) &&& 31).toUInt32).toInt32).toUInt32 >>> ((8 : Int32) &&& 31).toUInt32).toInt32)), .val (.int (25 : Int32))] [(.int ((25 : Int32) + ((((((((x ^^^ (-1 : Int32)) &&& (x - (1 : Int32))).toUInt32 >>> ((16 : Int32) &&& 31).toUInt32).toInt32).toUInt32 >>> ((8 : Int32) &&& 31).toUInt32).toInt32).toUInt32 >>> ((1 : Int32) &&& 31).toUInt32).toInt32)))])
            refine go_retI X0 hx hret hlk (hb hby d15_79) ?_ (by decide) (by decide)
            try rw [e0]
            exact ⟨congrArg (fun z => some (Value.int z)) (by simp only [ntzI, n1, n2, n3, n4, i1, i2, i3, i4, us, z0, eq_true c9_1, eq_true c23_2, eq_true c38_3, eq_false c52_4, eq_false c64_6, if_true, if_false, Int32.reduceAdd]), rfl, rfl⟩
      · refine Go.step (fun tt kk => XS.icmpYes X0.here hx rfl (pc0 := 38) (pc' := 49) rfl (hb hby d15_38) rfl (flt c38_3).2.2.2 (by decide) (by decide) kk) ?_
        show Go _ _ _ _ _ _ _ T0 (mkF m 49 #[.val (.int ((((x ^^^ (-1 : Int32)) &&& (x - (1 : Int32))).toUInt32 >>> ((16 : Int32) &&& 31).toUInt32).toInt32)), .val (.int (17 : Int32))] [])
        refine Go.step (fun tt kk => XS.iloadN X0.here hx rfl (hb hby d15_49) rfl kk) ?_
        show Go _ _ _ _ _ _ _ T0 (mkF m 50 #[.val (.int ((((x ^^^ (-1 : Int32)) &&& (x - (1 : Int32))).toUInt32 >>> ((16 : Int32) &&& 31).toUInt32).toInt32)), .val (.int (17 : Int32))] [(.int ((((x ^^^ (-1 : Int32)) &&& (x - (1 : Int32))).toUInt32 >>> ((16 : Int32) &&& 31).toUInt32).toInt32))])
        refine Go.step (fun tt kk => XS.bipush X0.here hx rfl (hb hby d15_50) kk) ?_
        show Go _ _ _ _ _ _ _ T0 (mkF m 52 #[.val (.int ((((x ^^^ (-1 : Int32)) &&& (x - (1 : Int32))).toUInt32 >>> ((16 : Int32) &&& 31).toUInt32).toInt32)), .val (.int (17 : Int32))] [(.int (16 : Int32)), (.int ((((x ^^^ (-1 : Int32)) &&& (x - (1 : Int32))).toUInt32 >>> ((16 : Int32) &&& 31).toUInt32).toInt32))])
        by_cases c52_7 : (16 : Int32) < ((((x ^^^ (-1 : Int32)) &&& (x - (1 : Int32))).toUInt32 >>> ((16 : Int32) &&& 31).toUInt32).toInt32)
        · refine Go.step (fun tt kk => XS.icmpNo X0.here hx rfl (hb hby d15_52) rfl (tlt c52_7).2.2.2 kk) ?_
          show Go _ _ _ _ _ _ _ T0 (mkF m 55 #[.val (.int ((((x ^^^ (-1 : Int32)) &&& (x - (1 : Int32))).toUInt32 >>> ((16 : Int32) &&& 31).toUInt32).toInt32)), .val (.int (17 : Int32))] [])
          refine Go.step (fun tt kk => XS.iinc X0.here hx rfl (hb hby d15_55) rfl (l' := #[.val (.int ((((x ^^^ (-1 : Int32)) &&& (x - (1 : Int32))).toUInt32 >>> ((16 : Int32) &&& 31).toUInt32).toInt32)), .val (.int (21 : Int32))]) rfl kk) ?_
          show Go _ _ _ _ _ _ _ T0 (mkF m 58 #[.val (.int ((((x ^^^ (-1 : Int32)) &&& (x - (1 : Int32))).toUInt32 >>> ((16 : Int32) &&& 31).toUInt32).toInt32)), .val (.int (21 : Int32))] [])
          refine Go.step (fun tt kk => XS.iloadN X0.here hx rfl (hb hby d15_58) rfl kk) ?_
          show Go _ _ _ _ _ _ _ T0 (mkF m 59 #[.val (.int ((((x ^^^ (-1 : Int32)) &&& (x - (1 : Int32))).toUInt32 >>> ((16 : Int32) &&& 31).toUInt32).toInt32)), .val (.int (21 : Int32))] [(.int ((((x ^^^ (-1 : Int32)) &&& (x - (1 : Int32))).toUInt32 >>> ((16 : Int32) &&& 31).toUInt32).toInt32))])
          refine Go.step (fun tt kk => XS.iconst X0.here hx rfl (hb hby d15_59) kk) ?_
          show Go _ _ _ _ _ _ _ T0 (mkF m 60 #[.val (.int ((((x ^^^ (-1 : Int32)) &&& (x - (1 : Int32))).toUInt32 >>> ((16 : Int32) &&& 31).toUInt32).toInt32)), .val (.int (21 : Int32))] [(.int (4 : Int32)), (.int ((((x ^^^ (-1 : Int32)) &&& (x - (1 : Int32))).toUInt32 >>> ((16 : Int32) &&& 31).toUInt32).toInt32))])
          refine Go.step (fun tt kk => XS.iushr X0.here hx rfl (hb hby d15_60) rfl kk) ?_
          show Go _ _ _ _ _ _ _ T0 (mkF m 61 #[.val (.int ((((x ^^^ (-1 : Int32)) &&& (x - (1 : Int32))).toUInt32 >>> ((16 : Int32) &&& 31).toUInt32).toInt32)), .val (.int (21 : Int32))] [(.int ((((((x ^^^ (-1 : Int32)) &&& (x - (1 : Int32))).toUInt32 >>> ((16 : Int32) &&& 31).toUInt32).toInt32).toUInt32 >>> ((4 : Int32) &&& 31).toUInt32).toInt32))])
          refine Go.step (fun tt kk => XS.istoreN X0.here hx rfl (hb hby d15_61) rfl (l' := #[.val (.int ((((((x ^^^ (-1 : Int32)) &&& (x - (1 : Int32))).toUInt32 >>> ((16 : Int32) &&& 31).toUInt32).toInt32).toUInt32 >>> ((4 : Int32) &&& 31).toUInt32).toInt32)), .val (.int (21 : Int32))]) rfl kk) ?_
          show Go _ _ _ _ _ _ _ T0 (mkF m 62 #[.val (.int ((((((x ^^^ (-1 : Int32)) &&& (x - (1 : Int32))).toUInt32 >>> ((16 : Int32) &&& 31).toUInt32).toInt32).toUInt32 >>> ((4 : Int32) &&& 31).toUInt32).toInt32)), .val (.int (21 : Int32))] [])
          refine Go.step (fun tt kk => XS.iloadN X0.here hx rfl (hb hby d15_62) rfl kk) ?_
          show Go _ _ _ _ _ _ _ T0 (mkF m 63 #[.val (.int ((((((x ^^^ (-1 : Int32)) &&& (x - (1 : Int32))).toUInt32 >>> ((16 : Int32) &&& 31).toUInt32).toInt32).toUInt32 >>> ((4 : Int32) &&& 31).toUInt32).toInt32)), .val (.int (21 : Int32))] [(.int ((((((x ^^^ (-1 : Int32)) &&& (x - (1 : Int32))).toUInt32 >>> ((16 : Int32) &&& 31).toUInt32).toInt32).toUInt32 >>> ((4 : Int32) &&& 31).toUInt32).toInt32))])
          refine Go.step (fun tt kk => XS.iconst X0.here hx rfl (hb hby d15_63) kk) ?_
          show Go _ _ _ _ _ _ _ T0 (mkF m 64 #[.val (.int ((((((x ^^^ (-1 : Int32)) &&& (x - (1 : Int32))).toUInt32 >>> ((16 : Int32) &&& 31).toUInt32).toInt32).toUInt32 >>> ((4 : Int32) &&& 31).toUInt32).toInt32)), .val (.int (21 : Int32))] [(.int (4 : Int32)), (.int ((((((x ^^^ (-1 : Int32)) &&& (x - (1 : Int32))).toUInt32 >>> ((16 : Int32) &&& 31).toUInt32).toInt32).toUInt32 >>> ((4 : Int32) &&& 31).toUInt32).toInt32))])
          by_cases c64_8 : (4 : Int32) < ((((((x ^^^ (-1 : Int32)) &&& (x - (1 : Int32))).toUInt32 >>> ((16 : Int32) &&& 31).toUInt32).toInt32).toUInt32 >>> ((4 : Int32) &&& 31).toUInt32).toInt32)
          · refine Go.step (fun tt kk => XS.icmpNo X0.here hx rfl (hb hby d15_64) rfl (tlt c64_8).2.2.2 kk) ?_
            show Go _ _ _ _ _ _ _ T0 (mkF m 67 #[.val (.int ((((((x ^^^ (-1 : Int32)) &&& (x - (1 : Int32))).toUInt32 >>> ((16 : Int32) &&& 31).toUInt32).toInt32).toUInt32 >>> ((4 : Int32) &&& 31).toUInt32).toInt32)), .val (.int (21 : Int32))] [])
            refine Go.step (fun tt kk => XS.iinc X0.here hx rfl (hb hby d15_67) rfl (l' := #[.val (.int ((((((x ^^^ (-1 : Int32)) &&& (x - (1 : Int32))).toUInt32 >>> ((16 : Int32) &&& 31).toUInt32).toInt32).toUInt32 >>> ((4 : Int32) &&& 31).toUInt32).toInt32)), .val (.int (23 : Int32))]) rfl kk) ?_
            show Go _ _ _ _ _ _ _ T0 (mkF m 70 #[.val (.int ((((((x ^^^ (-1 : Int32)) &&& (x - (1 : Int32))).toUInt32 >>> ((16 : Int32) &&& 31).toUInt32).toInt32).toUInt32 >>> ((4 : Int32) &&& 31).toUInt32).toInt32)), .val (.int (23 : Int32))] [])
            refine Go.step (fun tt kk => XS.iloadN X0.here hx rfl (hb hby d15_70) rfl kk) ?_
            show Go _ _ _ _ _ _ _ T0 (mkF m 71 #[.val (.int ((((((x ^^^ (-1 : Int32)) &&& (x - (1 : Int32))).toUInt32 >>> ((16 : Int32) &&& 31).toUInt32).toInt32).toUInt32 >>> ((4 : Int32) &&& 31).toUInt32).toInt32)), .val (.int (23 : Int32))] [(.int ((((((x ^^^ (-1 : Int32)) &&& (x - (1 : Int32))).toUInt32 >>> ((16 : Int32) &&& 31).toUInt32).toInt32).toUInt32 >>> ((4 : Int32) &&& 31).toUInt32).toInt32))])
            refine Go.step (fun tt kk => XS.iconst X0.here hx rfl (hb hby d15_71) kk) ?_
            show Go _ _ _ _ _ _ _ T0 (mkF m 72 #[.val (.int ((((((x ^^^ (-1 : Int32)) &&& (x - (1 : Int32))).toUInt32 >>> ((16 : Int32) &&& 31).toUInt32).toInt32).toUInt32 >>> ((4 : Int32) &&& 31).toUInt32).toInt32)), .val (.int (23 : Int32))] [(.int (2 : Int32)), (.int ((((((x ^^^ (-1 : Int32)) &&& (x - (1 : Int32))).toUInt32 >>> ((16 : Int32) &&& 31).toUInt32).toInt32).toUInt32 >>> ((4 : Int32) &&& 31).toUInt32).toInt32))])
            refine Go.step (fun tt kk => XS.iushr X0.here hx rfl (hb hby d15_72) rfl kk) ?_
            show Go _ _ _ _ _ _ _ T0 (mkF m 73 #[.val (.int ((((((x ^^^ (-1 : Int32)) &&& (x - (1 : Int32))).toUInt32 >>> ((16 : Int32) &&& 31).toUInt32).toInt32).toUInt32 >>> ((4 : Int32) &&& 31).toUInt32).toInt32)), .val (.int (23 : Int32))] [(.int ((((((((x ^^^ (-1 : Int32)) &&& (x - (1 : Int32))).toUInt32 >>> ((16 : Int32) &&& 31).toUInt32).toInt32).toUInt32 >>> ((4 : Int32) &&& 31).toUInt32).toInt32).toUInt32 >>> ((2 : Int32) &&& 31).toUInt32).toInt32))])
            refine Go.step (fun tt kk => XS.istoreN X0.here hx rfl (hb hby d15_73) rfl (l' := #[.val (.int ((((((((x ^^^ (-1 : Int32)) &&& (x - (1 : Int32))).toUInt32 >>> ((16 : Int32) &&& 31).toUInt32).toInt32).toUInt32 >>> ((4 : Int32) &&& 31).toUInt32).toInt32).toUInt32 >>> ((2 : Int32) &&& 31).toUInt32).toInt32)), .val (.int (23 : Int32))]) rfl kk) ?_
            show Go _ _ _ _ _ _ _ T0 (mkF m 74 #[.val (.int ((((((((x ^^^ (-1 : Int32)) &&& (x - (1 : Int32))).toUInt32 >>> ((16 : Int32) &&& 31).toUInt32).toInt32).toUInt32 >>> ((4 : Int32) &&& 31).toUInt32).toInt32).toUInt32 >>> ((2 : Int32) &&& 31).toUInt32).toInt32)), .val (.int (23 : Int32))] [])
            refine Go.step (fun tt kk => XS.iloadN X0.here hx rfl (hb hby d15_74) rfl kk) ?_
            show Go _ _ _ _ _ _ _ T0 (mkF m 75 #[.val (.int ((((((((x ^^^ (-1 : Int32)) &&& (x - (1 : Int32))).toUInt32 >>> ((16 : Int32) &&& 31).toUInt32).toInt32).toUInt32 >>> ((4 : Int32) &&& 31).toUInt32).toInt32).toUInt32 >>> ((2 : Int32) &&& 31).toUInt32).toInt32)), .val (.int (23 : Int32))] [(.int (23 : Int32))])
            refine Go.step (fun tt kk => XS.iloadN X0.here hx rfl (hb hby d15_75) rfl kk) ?_
            show Go _ _ _ _ _ _ _ T0 (mkF m 76 #[.val (.int ((((((((x ^^^ (-1 : Int32)) &&& (x - (1 : Int32))).toUInt32 >>> ((16 : Int32) &&& 31).toUInt32).toInt32).toUInt32 >>> ((4 : Int32) &&& 31).toUInt32).toInt32).toUInt32 >>> ((2 : Int32) &&& 31).toUInt32).toInt32)), .val (.int (23 : Int32))] [(.int ((((((((x ^^^ (-1 : Int32)) &&& (x - (1 : Int32))).toUInt32 >>> ((16 : Int32) &&& 31).toUInt32).toInt32).toUInt32 >>> ((4 : Int32) &&& 31).toUInt32).toInt32).toUInt32 >>> ((2 : Int32) &&& 31).toUInt32).toInt32)), (.int (23 : Int32))])
            refine Go.step (fun tt kk => XS.iconst X0.here hx rfl (hb hby d15_76) kk) ?_
            show Go _ _ _ _ _ _ _ T0 (mkF m 77 #[.val (.int ((((((((x ^^^ (-1 : Int32)) &&& (x - (1 : Int32))).toUInt32 >>> ((16 : Int32) &&& 31).toUInt32).toInt32).toUInt32 >>> ((4 : Int32) &&& 31).toUInt32).toInt32).toUInt32 >>> ((2 : Int32) &&& 31).toUInt32).toInt32)), .val (.int (23 : Int32))] [(.int (1 : Int32)), (.int ((((((((x ^^^ (-1 : Int32)) &&& (x - (1 : Int32))).toUInt32 >>> ((16 : Int32) &&& 31).toUInt32).toInt32).toUInt32 >>> ((4 : Int32) &&& 31).toUInt32).toInt32).toUInt32 >>> ((2 : Int32) &&& 31).toUInt32).toInt32)), (.int (23 : Int32))])
            refine Go.step (fun tt kk => XS.iushr X0.here hx rfl (hb hby d15_77) rfl kk) ?_
            show Go _ _ _ _ _ _ _ T0 (mkF m 78 #[.val (.int ((((((((x ^^^ (-1 : Int32)) &&& (x - (1 : Int32))).toUInt32 >>> ((16 : Int32) &&& 31).toUInt32).toInt32).toUInt32 >>> ((4 : Int32) &&& 31).toUInt32).toInt32).toUInt32 >>> ((2 : Int32) &&& 31).toUInt32).toInt32)), .val (.int (23 : Int32))] [(.int ((((((((((x ^^^ (-1 : Int32)) &&& (x - (1 : Int32))).toUInt32 >>> ((16 : Int32) &&& 31).toUInt32).toInt32).toUInt32 >>> ((4 : Int32) &&& 31).toUInt32).toInt32).toUInt32 >>> ((2 : Int32) &&& 31).toUInt32).toInt32).toUInt32 >>> ((1 : Int32) &&& 31).toUInt32).toInt32)), (.int (23 : Int32))])
            refine Go.step (fun tt kk => XS.iadd X0.here hx rfl (hb hby d15_78) rfl kk) ?_
            show Go _ _ _ _ _ _ _ T0 (mkF m 79 #[.val (.int ((((((((x ^^^ (-1 : Int32)) &&& (x - (1 : Int32))).toUInt32 >>> ((16 : Int32) &&& 31).toUInt32).toInt32).toUInt32 >>> ((4 : Int32) &&& 31).toUInt32).toInt32).toUInt32 >>> ((2 : Int32) &&& 31).toUInt32).toInt32)), .val (.int (23 : Int32))] [(.int ((23 : Int32) + ((((((((((x ^^^ (-1 : Int32)) &&& (x - (1 : Int32))).toUInt32 >>> ((16 : Int32) &&& 31).toUInt32).toInt32).toUInt32 >>> ((4 : Int32) &&& 31).toUInt32).toInt32).toUInt32 >>> ((2 : Int32) &&& 31).toUInt32).toInt32).toUInt32 >>> ((1 : Int32) &&& 31).toUInt32).toInt32)))])
            refine go_retI X0 hx hret hlk (hb hby d15_79) ?_ (by decide) (by decide)
            try rw [e0]
            exact ⟨congrArg (fun z => some (Value.int z)) (by simp only [ntzI, n1, n2, n3, n4, i1, i2, i3, i4, us, z0, eq_true c9_1, eq_true c23_2, eq_false c38_3, eq_true c52_7, eq_true c64_8, if_true, if_false, Int32.reduceAdd]), rfl, rfl⟩
          · refine Go.step (fun tt kk => XS.icmpYes X0.here hx rfl (pc0 := 64) (pc' := 74) rfl (hb hby d15_64) rfl (flt c64_8).2.2.2 (by decide) (by decide) kk) ?_
            show Go _ _ _ _ _ _ _ T0 (mkF m 74 #[.val (.int ((((((x ^^^ (-1 : Int32)) &&& (x - (1 : Int32))).toUInt32 >>> ((16 : Int32) &&& 31).toUInt32).toInt32).toUInt32 >>> ((4 : Int32) &&& 31).toUInt32).toInt32)), .val (.int (21 : Int32))] [])
            refine Go.step (fun tt kk => XS.iloadN X0.here hx rfl (hb hby d15_74) rfl kk) ?_
            show Go _ _ _ _ _ _ _ T0 (mkF m 75 #[.val (.int ((((((x ^^^ (-1 : Int32)) &&& (x - (1 : Int32))).toUInt32 >>> ((16 : Int32) &&& 31).toUInt32).toInt32).toUInt32 >>> ((4 : Int32) &&& 31).toUInt32).toInt32)), .val (.int (21 : Int32))] [(.int (21 : Int32))])
            refine Go.step (fun tt kk => XS.iloadN X0.here hx rfl (hb hby d15_75) rfl kk) ?_
            show Go _ _ _ _ _ _ _ T0 (mkF m 76 #[.val (.int ((((((x ^^^ (-1 : Int32)) &&& (x - (1 : Int32))).toUInt32 >>> ((16 : Int32) &&& 31).toUInt32).toInt32).toUInt32 >>> ((4 : Int32) &&& 31).toUInt32).toInt32)), .val (.int (21 : Int32))] [(.int ((((((x ^^^ (-1 : Int32)) &&& (x - (1 : Int32))).toUInt32 >>> ((16 : Int32) &&& 31).toUInt32).toInt32).toUInt32 >>> ((4 : Int32) &&& 31).toUInt32).toInt32)), (.int (21 : Int32))])
            refine Go.step (fun tt kk => XS.iconst X0.here hx rfl (hb hby d15_76) kk) ?_
            show Go _ _ _ _ _ _ _ T0 (mkF m 77 #[.val (.int ((((((x ^^^ (-1 : Int32)) &&& (x - (1 : Int32))).toUInt32 >>> ((16 : Int32) &&& 31).toUInt32).toInt32).toUInt32 >>> ((4 : Int32) &&& 31).toUInt32).toInt32)), .val (.int (21 : Int32))] [(.int (1 : Int32)), (.int ((((((x ^^^ (-1 : Int32)) &&& (x - (1 : Int32))).toUInt32 >>> ((16 : Int32) &&& 31).toUInt32).toInt32).toUInt32 >>> ((4 : Int32) &&& 31).toUInt32).toInt32)), (.int (21 : Int32))])
            refine Go.step (fun tt kk => XS.iushr X0.here hx rfl (hb hby d15_77) rfl kk) ?_
            show Go _ _ _ _ _ _ _ T0 (mkF m 78 #[.val (.int ((((((x ^^^ (-1 : Int32)) &&& (x - (1 : Int32))).toUInt32 >>> ((16 : Int32) &&& 31).toUInt32).toInt32).toUInt32 >>> ((4 : Int32) &&& 31).toUInt32).toInt32)), .val (.int (21 : Int32))] [(.int ((((((((x ^^^ (-1 : Int32)) &&& (x - (1 : Int32))).toUInt32 >>> ((16 : Int32) &&& 31).toUInt32).toInt32).toUInt32 >>> ((4 : Int32) &&& 31).toUInt32).toInt32).toUInt32 >>> ((1 : Int32) &&& 31).toUInt32).toInt32)), (.int (21 : Int32))])
            refine Go.step (fun tt kk => XS.iadd X0.here hx rfl (hb hby d15_78) rfl kk) ?_
            show Go _ _ _ _ _ _ _ T0 (mkF m 79 #[.val (.int ((((((x ^^^ (-1 : Int32)) &&& (x - (1 : Int32))).toUInt32 >>> ((16 : Int32) &&& 31).toUInt32).toInt32).toUInt32 >>> ((4 : Int32) &&& 31).toUInt32).toInt32)), .val (.int (21 : Int32))] [(.int ((21 : Int32) + ((((((((x ^^^ (-1 : Int32)) &&& (x - (1 : Int32))).toUInt32 >>> ((16 : Int32) &&& 31).toUInt32).toInt32).toUInt32 >>> ((4 : Int32) &&& 31).toUInt32).toInt32).toUInt32 >>> ((1 : Int32) &&& 31).toUInt32).toInt32)))])
            refine go_retI X0 hx hret hlk (hb hby d15_79) ?_ (by decide) (by decide)
            try rw [e0]
            exact ⟨congrArg (fun z => some (Value.int z)) (by simp only [ntzI, n1, n2, n3, n4, i1, i2, i3, i4, us, z0, eq_true c9_1, eq_true c23_2, eq_false c38_3, eq_true c52_7, eq_false c64_8, if_true, if_false, Int32.reduceAdd]), rfl, rfl⟩
        · refine Go.step (fun tt kk => XS.icmpYes X0.here hx rfl (pc0 := 52) (pc' := 62) rfl (hb hby d15_52) rfl (flt c52_7).2.2.2 (by decide) (by decide) kk) ?_
          show Go _ _ _ _ _ _ _ T0 (mkF m 62 #[.val (.int ((((x ^^^ (-1 : Int32)) &&& (x - (1 : Int32))).toUInt32 >>> ((16 : Int32) &&& 31).toUInt32).toInt32)), .val (.int (17 : Int32))] [])
          refine Go.step (fun tt kk => XS.iloadN X0.here hx rfl (hb hby d15_62) rfl kk) ?_
          show Go _ _ _ _ _ _ _ T0 (mkF m 63 #[.val (.int ((((x ^^^ (-1 : Int32)) &&& (x - (1 : Int32))).toUInt32 >>> ((16 : Int32) &&& 31).toUInt32).toInt32)), .val (.int (17 : Int32))] [(.int ((((x ^^^ (-1 : Int32)) &&& (x - (1 : Int32))).toUInt32 >>> ((16 : Int32) &&& 31).toUInt32).toInt32))])
          refine Go.step (fun tt kk => XS.iconst X0.here hx rfl (hb hby d15_63) kk) ?_
          show Go _ _ _ _ _ _ _ T0 (mkF m 64 #[.val (.int ((((x ^^^ (-1 : Int32)) &&& (x - (1 : Int32))).toUInt32 >>> ((16 : Int32) &&& 31).toUInt32).toInt32)), .val (.int (17 : Int32))] [(.int (4 : Int32)), (.int ((((x ^^^ (-1 : Int32)) &&& (x - (1 : Int32))).toUInt32 >>> ((16 : Int32) &&& 31).toUInt32).toInt32))])
          by_cases c64_9 : (4 : Int32) < ((((x ^^^ (-1 : Int32)) &&& (x - (1 : Int32))).toUInt32 >>> ((16 : Int32) &&& 31).toUInt32).toInt32)
          · refine Go.step (fun tt kk => XS.icmpNo X0.here hx rfl (hb hby d15_64) rfl (tlt c64_9).2.2.2 kk) ?_
            show Go _ _ _ _ _ _ _ T0 (mkF m 67 #[.val (.int ((((x ^^^ (-1 : Int32)) &&& (x - (1 : Int32))).toUInt32 >>> ((16 : Int32) &&& 31).toUInt32).toInt32)), .val (.int (17 : Int32))] [])
            refine Go.step (fun tt kk => XS.iinc X0.here hx rfl (hb hby d15_67) rfl (l' := #[.val (.int ((((x ^^^ (-1 : Int32)) &&& (x - (1 : Int32))).toUInt32 >>> ((16 : Int32) &&& 31).toUInt32).toInt32)), .val (.int (19 : Int32))]) rfl kk) ?_
            show Go _ _ _ _ _ _ _ T0 (mkF m 70 #[.val (.int ((((x ^^^ (-1 : Int32)) &&& (x - (1 : Int32))).toUInt32 >>> ((16 : Int32) &&& 31).toUInt32).toInt32)), .val (.int (19 : Int32))] [])
            refine Go.step (fun tt kk => XS.iloadN X0.here hx rfl (hb hby d15_70) rfl kk) ?_
            show Go _ _ _ _ _ _ _ T0 (mkF m 71 #[.val (.int ((((x ^^^ (-1 : Int32)) &&& (x - (1 : Int32))).toUInt32 >>> ((16 : Int32) &&& 31).toUInt32).toInt32)), .val (.int (19 : Int32))] [(.int ((((x ^^^ (-1 : Int32)) &&& (x - (1 : Int32))).toUInt32 >>> ((16 : Int32) &&& 31).toUInt32).toInt32))])
            refine Go.step (fun tt kk => XS.iconst X0.here hx rfl (hb hby d15_71) kk) ?_
            show Go _ _ _ _ _ _ _ T0 (mkF m 72 #[.val (.int ((((x ^^^ (-1 : Int32)) &&& (x - (1 : Int32))).toUInt32 >>> ((16 : Int32) &&& 31).toUInt32).toInt32)), .val (.int (19 : Int32))] [(.int (2 : Int32)), (.int ((((x ^^^ (-1 : Int32)) &&& (x - (1 : Int32))).toUInt32 >>> ((16 : Int32) &&& 31).toUInt32).toInt32))])
            refine Go.step (fun tt kk => XS.iushr X0.here hx rfl (hb hby d15_72) rfl kk) ?_
            show Go _ _ _ _ _ _ _ T0 (mkF m 73 #[.val (.int ((((x ^^^ (-1 : Int32)) &&& (x - (1 : Int32))).toUInt32 >>> ((16 : Int32) &&& 31).toUInt32).toInt32)), .val (.int (19 : Int32))] [(.int ((((((x ^^^ (-1 : Int32)) &&& (x - (1 : Int32))).toUInt32 >>> ((16 : Int32) &&& 31).toUInt32).toInt32).toUInt32 >>> ((2 : Int32) &&& 31).toUInt32).toInt32))])
            refine Go.step (fun tt kk => XS.istoreN X0.here hx rfl (hb hby d15_73) rfl (l' := #[.val (.int ((((((x ^^^ (-1 : Int32)) &&& (x - (1 : Int32))).toUInt32 >>> ((16 : Int32) &&& 31).toUInt32).toInt32).toUInt32 >>> ((2 : Int32) &&& 31).toUInt32).toInt32)), .val (.int (19 : Int32))]) rfl kk) ?_
            show Go _ _ _ _ _ _ _ T0 (mkF m 74 #[.val (.int ((((((x ^^^ (-1 : Int32)) &&& (x - (1 : Int32))).toUInt32 >>> ((16 : Int32) &&& 31).toUInt32).toInt32).toUInt32 >>> ((2 : Int32) &&& 31).toUInt32).toInt32)), .val (.int (19 : Int32))] [])
            refine Go.step (fun tt kk => XS.iloadN X0.here hx rfl (hb hby d15_74) rfl kk) ?_
            show Go _ _ _ _ _ _ _ T0 (mkF m 75 #[.val (.int ((((((x ^^^ (-1 : Int32)) &&& (x - (1 : Int32))).toUInt32 >>> ((16 : Int32) &&& 31).toUInt32).toInt32).toUInt32 >>> ((2 : Int32) &&& 31).toUInt32).toInt32)), .val (.int (19 : Int32))] [(.int (19 : Int32))])
            refine Go.step (fun tt kk => XS.iloadN X0.here hx rfl (hb hby d15_75) rfl kk) ?_
            show Go _ _ _ _ _ _ _ T0 (mkF m 76 #[.val (.int ((((((x ^^^ (-1 : Int32)) &&& (x - (1 : Int32))).toUInt32 >>> ((16 : Int32) &&& 31).toUInt32).toInt32).toUInt32 >>> ((2 : Int32) &&& 31).toUInt32).toInt32)), .val (.int (19 : Int32))] [(.int ((((((x ^^^ (-1 : Int32)) &&& (x - (1 : Int32))).toUInt32 >>> ((16 : Int32) &&& 31).toUInt32).toInt32).toUInt32 >>> ((2 : Int32) &&& 31).toUInt32).toInt32)), (.int (19 : Int32))])
            refine Go.step (fun tt kk => XS.iconst X0.here hx rfl (hb hby d15_76) kk) ?_
            show Go _ _ _ _ _ _ _ T0 (mkF m 77 #[.val (.int ((((((x ^^^ (-1 : Int32)) &&& (x - (1 : Int32))).toUInt32 >>> ((16 : Int32) &&& 31).toUInt32).toInt32).toUInt32 >>> ((2 : Int32) &&& 31).toUInt32).toInt32)), .val (.int (19 : Int32))] [(.int (1 : Int32)), (.int ((((((x ^^^ (-1 : Int32)) &&& (x - (1 : Int32))).toUInt32 >>> ((16 : Int32) &&& 31).toUInt32).toInt32).toUInt32 >>> ((2 : Int32) &&& 31).toUInt32).toInt32)), (.int (19 : Int32))])
            refine Go.step (fun tt kk => XS.iushr X0.here hx rfl (hb hby d15_77) rfl kk) ?_
            show Go _ _ _ _ _ _ _ T0 (mkF m 78 #[.val (.int ((((((x ^^^ (-1 : Int32)) &&& (x - (1 : Int32))).toUInt32 >>> ((16 : Int32) &&& 31).toUInt32).toInt32).toUInt32 >>> ((2 : Int32) &&& 31).toUInt32).toInt32)), .val (.int (19 : Int32))] [(.int ((((((((x ^^^ (-1 : Int32)) &&& (x - (1 : Int32))).toUInt32 >>> ((16 : Int32) &&& 31).toUInt32).toInt32).toUInt32 >>> ((2 : Int32) &&& 31).toUInt32).toInt32).toUInt32 >>> ((1 : Int32) &&& 31).toUInt32).toInt32)), (.int (19 : Int32))])
            refine Go.step (fun tt kk => XS.iadd X0.here hx rfl (hb hby d15_78) rfl kk) ?_
            show Go _ _ _ _ _ _ _ T0 (mkF m 79 #[.val (.int ((((((x ^^^ (-1 : Int32)) &&& (x - (1 : Int32))).toUInt32 >>> ((16 : Int32) &&& 31).toUInt32).toInt32).toUInt32 >>> ((2 : Int32) &&& 31).toUInt32).toInt32)), .val (.int (19 : Int32))] [(.int ((19 : Int32) + ((((((((x ^^^ (-1 : Int32)) &&& (x - (1 : Int32))).toUInt32 >>> ((16 : Int32) &&& 31).toUInt32).toInt32).toUInt32 >>> ((2 : Int32) &&& 31).toUInt32).toInt32).toUInt32 >>> ((1 : Int32) &&& 31).toUInt32).toInt32)))])
            refine go_retI X0 hx hret hlk (hb hby d15_79) ?_ (by decide) (by decide)
            try rw [e0]
            exact ⟨congrArg (fun z => some (Value.int z)) (by simp only [ntzI, n1, n2, n3, n4, i1, i2, i3, i4, us, z0, eq_true c9_1, eq_true c23_2, eq_false c38_3, eq_false c52_7, eq_true c64_9, if_true, if_false, Int32.reduceAdd]), rfl, rfl⟩
          · refine Go.step (fun tt kk => XS.icmpYes X0.here hx rfl (pc0 := 64) (pc' := 74) rfl (hb hby d15_64) rfl (flt c64_9).2.2.2 (by decide) (by decide) kk) ?_
            show Go _ _ _ _ _ _ _ T0 (mkF m 74 #[.val (.int ((((x ^^^ (-1 : Int32)) &&& (x - (1 : Int32))).toUInt32 >>> ((16 : Int32) &&& 31).toUInt32).toInt32)), .val (.int (17 : Int32))] [])
            refine Go.step (fun tt kk => XS.iloadN X0.here hx rfl (hb hby d15_74) rfl kk) ?_
            show Go _ _ _ _ _ _ _ T0 (mkF m 75 #[.val (.int ((((x ^^^ (-1 : Int32)) &&& (x - (1 : Int32))).toUInt32 >>> ((16 : Int32) &&& 31).toUInt32).toInt32)), .val (.int (17 : Int32))] [(.int (17 : Int32))])
            refine Go.step (fun tt kk => XS.iloadN X0.here hx rfl (hb hby d15_75) rfl kk) ?_
            show Go _ _ _ _ _ _ _ T0 (mkF m 76 #[.val (.int ((((x ^^^ (-1 : Int32)) &&& (x - (1 : Int32))).toUInt32 >>> ((16 : Int32) &&& 31).toUInt32).toInt32)), .val (.int (17 : Int32))] [(.int ((((x ^^^ (-1 : Int32)) &&& (x - (1 : Int32))).toUInt32 >>> ((16 : Int32) &&& 31).toUInt32).toInt32)), (.int (17 : Int32))])
            refine Go.step (fun tt kk => XS.iconst X0.here hx rfl (hb hby d15_76) kk) ?_
            show Go _ _ _ _ _ _ _ T0 (mkF m 77 #[.val (.int ((((x ^^^ (-1 : Int32)) &&& (x - (1 : Int32))).toUInt32 >>> ((16 : Int32) &&& 31).toUInt32).toInt32)), .val (.int (17 : Int32))] [(.int (1 : Int32)), (.int ((((x ^^^ (-1 : Int32)) &&& (x - (1 : Int32))).toUInt32 >>> ((16 : Int32) &&& 31).toUInt32).toInt32)), (.int (17 : Int32))])
            refine Go.step (fun tt kk => XS.iushr X0.here hx rfl (hb hby d15_77) rfl kk) ?_
            show Go _ _ _ _ _ _ _ T0 (mkF m 78 #[.val (.int ((((x ^^^ (-1 : Int32)) &&& (x - (1 : Int32))).toUInt32 >>> ((16 : Int32) &&& 31).toUInt32).toInt32)), .val (.int (17 : Int32))] [(.int ((((((x ^^^ (-1 : Int32)) &&& (x - (1 : Int32))).toUInt32 >>> ((16 : Int32) &&& 31).toUInt32).toInt32).toUInt32 >>> ((1 : Int32) &&& 31).toUInt32).toInt32)), (.int (17 : Int32))])
            refine Go.step (fun tt kk => XS.iadd X0.here hx rfl (hb hby d15_78) rfl kk) ?_
            show Go _ _ _ _ _ _ _ T0 (mkF m 79 #[.val (.int ((((x ^^^ (-1 : Int32)) &&& (x - (1 : Int32))).toUInt32 >>> ((16 : Int32) &&& 31).toUInt32).toInt32)), .val (.int (17 : Int32))] [(.int ((17 : Int32) + ((((((x ^^^ (-1 : Int32)) &&& (x - (1 : Int32))).toUInt32 >>> ((16 : Int32) &&& 31).toUInt32).toInt32).toUInt32 >>> ((1 : Int32) &&& 31).toUInt32).toInt32)))])
            refine go_retI X0 hx hret hlk (hb hby d15_79) ?_ (by decide) (by decide)
            try rw [e0]
            exact ⟨congrArg (fun z => some (Value.int z)) (by simp only [ntzI, n1, n2, n3, n4, i1, i2, i3, i4, us, z0, eq_true c9_1, eq_true c23_2, eq_false c38_3, eq_false c52_7, eq_false c64_9, if_true, if_false, Int32.reduceAdd]), rfl, rfl⟩
    · refine Go.step (fun tt kk => XS.icmpYes X0.here hx rfl (pc0 := 23) (pc' := 34) rfl (hb hby d15_23) rfl (flt c23_2).2.2.2 (by decide) (by decide) kk) ?_
      show Go _ _ _ _ _ _ _ T0 (mkF m 34 #[.val (.int ((x ^^^ (-1 : Int32)) &&& (x - (1 : Int32)))), .val (.int (1 : Int32))] [])
      refine Go.step (fun tt kk => XS.iloadN X0.here hx rfl (hb hby d15_34) rfl kk) ?_
      show Go _ _ _ _ _ _ _ T0 (mkF m 35 #[.val (.int ((x ^^^ (-1 : Int32)) &&& (x - (1 : Int32)))), .val (.int (1 : Int32))] [(.int ((x ^^^ (-1 : Int32)) &&& (x - (1 : Int32))))])
      refine Go.step (fun tt kk => XS.sipush X0.here hx rfl (hb hby d15_35) kk) ?_
      show Go _ _ _ _ _ _ _ T0 (mkF m 38 #[.val (.int ((x ^^^ (-1 : Int32)) &&& (x - (1 : Int32)))), .val (.int (1 : Int32))] [(.int (256 : Int32)), (.int ((x ^^^ (-1 : Int32)) &&& (x - (1 : Int32))))])
      by_cases c38_10 : (256 : Int32) < ((x ^^^ (-1 : Int32)) &&& (x - (1 : Int32)))
      · refine Go.step (fun tt kk => XS.icmpNo X0.here hx rfl (hb hby d15_38) rfl (tlt c38_10).2.2.2 kk) ?_
        show Go _ _ _ _ _ _ _ T0 (mkF m 41 #[.val (.int ((x ^^^ (-1 : Int32)) &&& (x - (1 : Int32)))), .val (.int (1 : Int32))] [])
        refine Go.step (fun tt kk => XS.iinc X0.here hx rfl (hb hby d15_41) rfl (l' := #[.val (.int ((x ^^^ (-1 : Int32)) &&& (x - (1 : Int32)))), .val (.int (9 : Int32))]) rfl kk) ?_
        show Go _ _ _ _ _ _ _ T0 (mkF m 44 #[.val (.int ((x ^^^ (-1 : Int32)) &&& (x - (1 : Int32)))), .val (.int (9 : Int32))] [])
        refine Go.step (fun tt kk => XS.iloadN X0.here hx rfl (hb hby d15_44) rfl kk) ?_
        show Go _ _ _ _ _ _ _ T0 (mkF m 45 #[.val (.int ((x ^^^ (-1 : Int32)) &&& (x - (1 : Int32)))), .val (.int (9 : Int32))] [(.int ((x ^^^ (-1 : Int32)) &&& (x - (1 : Int32))))])
        refine Go.step (fun tt kk => XS.bipush X0.here hx rfl (hb hby d15_45) kk) ?_
        show Go _ _ _ _ _ _ _ T0 (mkF m 47 #[.val (.int ((x ^^^ (-1 : Int32)) &&& (x - (1 : Int32)))), .val (.int (9 : Int32))] [(.int (8 : Int32)), (.int ((x ^^^ (-1 : Int32)) &&& (x - (1 : Int32))))])
        refine Go.step (fun tt kk => XS.iushr X0.here hx rfl (hb hby d15_47) rfl kk) ?_
        show Go _ _ _ _ _ _ _ T0 (mkF m 48 #[.val (.int ((x ^^^ (-1 : Int32)) &&& (x - (1 : Int32)))), .val (.int (9 : Int32))] [(.int ((((x ^^^ (-1 : Int32)) &&& (x - (1 : Int32))).toUInt32 >>> ((8 : Int32) &&& 31).toUInt32).toInt32))])
        refine Go.step (fun tt kk => XS.istoreN X0.here hx rfl (hb hby d15_48) rfl (l' := #[.val (.int ((((x ^^^ (-1 : Int32)) &&& (x - (1 : Int32))).toUInt32 >>> ((8 : Int32) &&& 31).toUInt32).toInt32)), .val (.int (9 : Int32))]) rfl kk) ?_
        show Go _ _ _ _ _ _ _ T0 (mkF m 49 #[.val (.int ((((x ^^^ (-1 : Int32)) &&& (x - (1 : Int32))).toUInt32 >>> ((8 : Int32) &&& 31).toUInt32).toInt32)), .val (.int (9 : Int32))] [])
        refine Go.step (fun tt kk => XS.iloadN X0.here hx rfl (hb hby d15_49) rfl kk) ?_
        show Go _ _ _ _ _ _ _ T0 (mkF m 50 #[.val (.int ((((x ^^^ (-1 : Int32)) &&& (x - (1 : Int32))).toUInt32 >>> ((8 : Int32) &&& 31).toUInt32).toInt32)), .val (.int (9 : Int32))] [(.int ((((x ^^^ (-1 : Int32)) &&& (x - (1 : Int32))).toUInt32 >>> ((8 : Int32) &&& 31).toUInt32).toInt32))])
        refine Go.step (fun tt kk => XS.bipush X0.here hx rfl (hb hby d15_50) kk) ?_
        show Go _ _ _ _ _ _ _ T0 (mkF m 52 #[.val (.int ((((x ^^^ (-1 : Int32)) &&& (x - (1 : Int32))).toUInt32 >>> ((8 : Int32) &&& 31).toUInt32).toInt32)), .val (.int (9 : Int32))] [(.int (16 : Int32)), (.int ((((x ^^^ (-1 : Int32)) &&& (x - (1 : Int32))).toUInt32 >>> ((8 : Int32) &&& 31).toUInt32).toInt32))])
        by_cases c52_11 : (16 : Int32) < ((((x ^^^ (-1 : Int32)) &&& (x - (1 : Int32))).toUInt32 >>> ((8 : Int32) &&& 31).toUInt32).toInt32)
        · refine Go.step (fun tt kk => XS.icmpNo X0.here hx rfl (hb hby d15_52) rfl (tlt c52_11).2.2.2 kk) ?_
          show Go _ _ _ _ _ _ _ T0 (mkF m 55 #[.val (.int ((((x ^^^ (-1 : Int32)) &&& (x - (1 : Int32))).toUInt32 >>> ((8 : Int32) &&& 31).toUInt32).toInt32)), .val (.int (9 : Int32))] [])
          refine Go.step (fun tt kk => XS.iinc X0.here hx rfl (hb hby d15_55) rfl (l' := #[.val (.int ((((x ^^^ (-1 : Int32)) &&& (x - (1 : Int32))).toUInt32 >>> ((8 : Int32) &&& 31).toUInt32).toInt32)), .val (.int (13 : Int32))]) rfl kk) ?_
          show Go _ _ _ _ _ _ _ T0 (mkF m 58 #[.val (.int ((((x ^^^ (-1 : Int32)) &&& (x - (1 : Int32))).toUInt32 >>> ((8 : Int32) &&& 31).toUInt32).toInt32)), .val (.int (13 : Int32))] [])
          refine Go.step (fun tt kk => XS.iloadN X0.here hx rfl (hb hby d15_58) rfl kk) ?_
          show Go _ _ _ _ _ _ _ T0 (mkF m 59 #[.val (.int ((((x ^^^ (-1 : Int32)) &&& (x - (1 : Int32))).toUInt32 >>> ((8 : Int32) &&& 31).toUInt32).toInt32)), .val (.int (13 : Int32))] [(.int ((((x ^^^ (-1 : Int32)) &&& (x - (1 : Int32))).toUInt32 >>> ((8 : Int32) &&& 31).toUInt32).toInt32))])
          refine Go.step (fun tt kk => XS.iconst X0.here hx rfl (hb hby d15_59) kk) ?_
          show Go _ _ _ _ _ _ _ T0 (mkF m 60 #[.val (.int ((((x ^^^ (-1 : Int32)) &&& (x - (1 : Int32))).toUInt32 >>> ((8 : Int32) &&& 31).toUInt32).toInt32)), .val (.int (13 : Int32))] [(.int (4 : Int32)), (.int ((((x ^^^ (-1 : Int32)) &&& (x - (1 : Int32))).toUInt32 >>> ((8 : Int32) &&& 31).toUInt32).toInt32))])
          refine Go.step (fun tt kk => XS.iushr X0.here hx rfl (hb hby d15_60) rfl kk) ?_
          show Go _ _ _ _ _ _ _ T0 (mkF m 61 #[.val (.int ((((x ^^^ (-1 : Int32)) &&& (x - (1 : Int32))).toUInt32 >>> ((8 : Int32) &&& 31).toUInt32).toInt32)), .val (.int (13 : Int32))] [(.int ((((((x ^^^ (-1 : Int32)) &&& (x - (1 : Int32))).toUInt32 >>> ((8 : Int32) &&& 31).toUInt32).toInt32).toUInt32 >>> ((4 : Int32) &&& 31).toUInt32).toInt32))])
          refine Go.step (fun tt kk => XS.istoreN X0.here hx rfl (hb hby d15_61) rfl (l' := #[.val (.int ((((((x ^^^ (-1 : Int32)) &&& (x - (1 : Int32))).toUInt32 >>> ((8 : Int32) &&& 31).toUInt32).toInt32).toUInt32 >>> ((4 : Int32) &&& 31).toUInt32).toInt32)), .val (.int (13 : Int32))]) rfl kk) ?_
          show Go _ _ _ _ _ _ _ T0 (mkF m 62 #[.val (.int ((((((x ^^^ (-1 : Int32)) &&& (x - (1 : Int32))).toUInt32 >>> ((8 : Int32) &&& 31).toUInt32).toInt32).toUInt32 >>> ((4 : Int32) &&& 31).toUInt32).toInt32)), .val (.int (13 : Int32))] [])
          refine Go.step (fun tt kk => XS.iloadN X0.here hx rfl (hb hby d15_62) rfl kk) ?_
          show Go _ _ _ _ _ _ _ T0 (mkF m 63 #[.val (.int ((((((x ^^^ (-1 : Int32)) &&& (x - (1 : Int32))).toUInt32 >>> ((8 : Int32) &&& 31).toUInt32).toInt32).toUInt32 >>> ((4 : Int32) &&& 31).toUInt32).toInt32)), .val (.int (13 : Int32))] [(.int ((((((x ^^^ (-1 : Int32)) &&& (x - (1 : Int32))).toUInt32 >>> ((8 : Int32) &&& 31).toUInt32).toInt32).toUInt32 >>> ((4 : Int32) &&& 31).toUInt32).toInt32))])
          refine Go.step (fun tt kk => XS.iconst X0.here hx rfl (hb hby d15_63) kk) ?_
          show Go _ _ _ _ _ _ _ T0 (mkF m 64 #[.val (.int ((((((x ^^^ (-1 : Int32)) &&& (x - (1 : Int32))).toUInt32 >>> ((8 : Int32) &&& 31).toUInt32).toInt32).toUInt32 >>> ((4 : Int32) &&& 31).toUInt32).toInt32)), .val (.int (13 : Int32))] [(.int (4 : Int32)), (.int ((((((x ^^^ (-1 : Int32)) &&& (x - (1 : Int32))).toUInt32 >>> ((8 : Int32) &&& 31).toUInt32).toInt32).toUInt32 >>> ((4 : Int32) &&& 31).toUInt32).toInt32))])
          by_cases c64_12 : (4 : Int32) < ((((((x ^^^ (-1 : Int32)) &&& (x - (1 : Int32))).toUInt32 >>> ((8 : Int32) &&& 31).toUInt32).toInt32).toUInt32 >>> ((4 : Int32) &&& 31).toUInt32).toInt32)
          · refine Go.step (fun tt kk => XS.icmpNo X0.here hx rfl (hb hby d15_64) rfl (tlt c64_12).2.2.2 kk) ?_
            show Go _ _ _ _ _ _ _ T0 (mkF m 67 #[.val (.int ((((((x ^^^ (-1 : Int32)) &&& (x - (1 : Int32))).toUInt32 >>> ((8 : Int32) &&& 31).toUInt32).toInt32).toUInt32 >>> ((4 : Int32) &&& 31).toUInt32).toInt32)), .val (.int (13 : Int32))] [])
            refine Go.step (fun tt kk => XS.iinc X0.here hx rfl (hb hby d15_67) rfl (l' := #[.val (.int ((((((x ^^^ (-1 : Int32)) &&& (x - (1 : Int32))).toUInt32 >>> ((8 : Int32) &&& 31).toUInt32).toInt32).toUInt32 >>> ((4 : Int32) &&& 31).toUInt32).toInt32)), .val (.int (15 : Int32))]) rfl kk) ?_
            show Go _ _ _ _ _ _ _ T0 (mkF m 70 #[.val (.int ((((((x ^^^ (-1 : Int32)) &&& (x - (1 : Int32))).toUInt32 >>> ((8 : Int32) &&& 31).toUInt32).toInt32).toUInt32 >>> ((4 : Int32) &&& 31).toUInt32).toInt32)), .val (.int (15 : Int32))] [])
            refine Go.step (fun tt kk => XS.iloadN X0.here hx rfl (hb hby d15_70) rfl kk) ?_
            show Go _ _ _ _ _ _ _ T0 (mkF m 71 #[.val (.int ((((((x ^^^ (-1 : Int32)) &&& (x - (1 : Int32))).toUInt32 >>> ((8 : Int32) &&& 31).toUInt32).toInt32).toUInt32 >>> ((4 : Int32) &&& 31).toUInt32).toInt32)), .val (.int (15 : Int32))] [(.int ((((((x ^^^ (-1 : Int32)) &&& (x - (1 : Int32))).toUInt32 >>> ((8 : Int32) &&& 31).toUInt32).toInt32).toUInt32 >>> ((4 : Int32) &&& 31).toUInt32).toInt32))])
            refine Go.step (fun tt kk => XS.iconst X0.here hx rfl (hb hby d15_71) kk) ?_
            show Go _ _ _ _ _ _ _ T0 (mkF m 72 #[.val (.int ((((((x ^^^ (-1 : Int32)) &&& (x - (1 : Int32))).toUInt32 >>> ((8 : Int32) &&& 31).toUInt32).toInt32).toUInt32 >>> ((4 : Int32) &&& 31).toUInt32).toInt32)), .val (.int (15 : Int32))] [(.int (2 : Int32)), (.int ((((((x ^^^ (-1 : Int32)) &&& (x - (1 : Int32))).toUInt32 >>> ((8 : Int32) &&& 31).toUInt32).toInt32).toUInt32 >>> ((4 : Int32) &&& 31).toUInt32).toInt32))])
            refine Go.step (fun tt kk => XS.iushr X0.here hx rfl (hb hby d15_72) rfl kk) ?_
            show Go _ _ _ _ _ _ _ T0 (mkF m 73 #[.val (.int ((((((x ^^^ (-1 : Int32)) &&& (x - (1 : Int32))).toUInt32 >>> ((8 : Int32) &&& 31).toUInt32).toInt32).toUInt32 >>> ((4 : Int32) &&& 31).toUInt32).toInt32)), .val (.int (15 : Int32))] [(.int ((((((((x ^^^ (-1 : Int32)) &&& (x - (1 : Int32))).toUInt32 >>> ((8 : Int32) &&& 31).toUInt32).toInt32).toUInt32 >>> ((4 : Int32) &&& 31).toUInt32).toInt32).toUInt32 >>> ((2 : Int32) &&& 31).toUInt32).toInt32))])
            refine Go.step (fun tt kk => XS.istoreN X0.here hx rfl (hb hby d15_73) rfl (l' := #[.val (.int ((((((((x ^^^ (-1 : Int32)) &&& (x - (1 : Int32))).toUInt32 >>> ((8 : Int32) &&& 31).toUInt32).toInt32).toUInt32 >>> ((4 : Int32) &&& 31).toUInt32).toInt32).toUInt32 >>> ((2 : Int32) &&& 31).toUInt32).toInt32)), .val (.int (15 : Int32))]) rfl kk) ?_
            show Go _ _ _ _ _ _ _ T0 (mkF m 74 #[.val (.int ((((((((x ^^^ (-1 : Int32)) &&& (x - (1 : Int32))).toUInt32 >>> ((8 : Int32) &&& 31).toUInt32).toInt32).toUInt32 >>> ((4 : Int32) &&& 31).toUInt32).toInt32).toUInt32 >>> ((2 : Int32) &&& 31).toUInt32).toInt32)), .val (.int (15 : Int32))] [])
            refine Go.step (fun tt kk => XS.iloadN X0.here hx rfl (hb hby d15_74) rfl kk) ?_
            show Go _ _ _ _ _ _ _ T0 (mkF m 75 #[.val (.int ((((((((x ^^^ (-1 : Int32)) &&& (x - (1 : Int32))).toUInt32 >>> ((8 : Int32) &&& 31).toUInt32).toInt32).toUInt32 >>> ((4 : Int32) &&& 31).toUInt32).toInt32).toUInt32 >>> ((2 : Int32) &&& 31).toUInt32).toInt32)), .val (.int (15 : Int32))] [(.int (15 : Int32))])
            refine Go.step (fun tt kk => XS.iloadN X0.here hx rfl (hb hby d15_75) rfl kk) ?_
            show Go _ _ _ _ _ _ _ T0 (mkF m 76 #[.val (.int ((((((((x ^^^ (-1 : Int32)) &&& (x - (1 : Int32))).toUInt32 >>> ((8 : Int32) &&& 31).toUInt32).toInt32).toUInt32 >>> ((4 : Int32) &&& 31).toUInt32).toInt32).toUInt32 >>> ((2 : Int32) &&& 31).toUInt32).toInt32)), .val (.int (15 : Int32))] [(.int ((((((((x ^^^ (-1 : Int32)) &&& (x - (1 : Int32))).toUInt32 >>> ((8 : Int32) &&& 31).toUInt32).toInt32).toUInt32 >>> ((4 : Int32) &&& 31).toUInt32).toInt32).toUInt32 >>> ((2 : Int32) &&& 31).toUInt32).toInt32)), (.int (15 : Int32))])
            refine Go.step (fun tt kk => XS.iconst X0.here hx rfl (hb hby d15_76) kk) ?_
            show Go _ _ _ _ _ _ _ T0 (mkF m 77 #[.val (.int ((((((((x ^^^ (-1 : Int32)) &&& (x - (1 : Int32))).toUInt32 >>> ((8 : Int32) &&& 31).toUInt32).toInt32).toUInt32 >>> ((4 : Int32) &&& 31).toUInt32).toInt32).toUInt32 >>> ((2 : Int32) &&& 31).toUInt32).toInt32)), .val (.int (15 : Int32))] [(.int (1 : Int32)), (.int ((((((((x ^^^ (-1 : Int32)) &&& (x - (1 : Int32))).toUInt32 >>> ((8 : Int32) &&& 31).toUInt32).toInt32).toUInt32 >>> ((4 : Int32) &&& 31).toUInt32).toInt32).toUInt32 >>> ((2 : Int32) &&& 31).toUInt32).toInt32)), (.int (15 : Int32))])
            refine Go.step (fun tt kk => XS.iushr X0.here hx rfl (hb hby d15_77) rfl kk) ?_
            show Go _ _ _ _ _ _ _ T0 (mkF m 78 #[.val (.int ((((((((x ^^^ (-1 : Int32)) &&& (x - (1 : Int32))).toUInt32 >>> ((8 : Int32) &&& 31).toUInt32).toInt32).toUInt32 >>> ((4 : Int32) &&& 31).toUInt32).toInt32).toUInt32 >>> ((2 : Int32) &&& 31).toUInt32).toInt32)), .val (.int (15 : Int32))] [(.int ((((((((((x ^^^ (-1 : Int32)) &&& (x - (1 : Int32))).toUInt32 >>> ((8 : Int32) &&& 31).toUInt32).toInt32).toUInt32 >>> ((4 : Int32) &&& 31).toUInt32).toInt32).toUInt32 >>> ((2 : Int32) &&& 31).toUInt32).toInt32).toUInt32 >>> ((1 : Int32) &&& 31).toUInt32).toInt32)), (.int (15 : Int32))])
            refine Go.step (fun tt kk => XS.iadd X0.here hx rfl (hb hby d15_78) rfl kk) ?_
            show Go _ _ _ _ _ _ _ T0 (mkF m 79 #[.val (.int ((((((((x ^^^ (-1 : Int32)) &&& (x - (1 : Int32))).toUInt32 >>> ((8 : Int32) &&& 31).toUInt32).toInt32).toUInt32 >>> ((4 : Int32) &&& 31).toUInt32).toInt32).toUInt32 >>> ((2 : Int32) &&& 31).toUInt32).toInt32)), .val (.int (15 : Int32))] [(.int ((15 : Int32) + ((((((((((x ^^^ (-1 : Int32)) &&& (x - (1 : Int32))).toUInt32 >>> ((8 : Int32) &&& 31).toUInt32).toInt32).toUInt32 >>> ((4 : Int32) &&& 31).toUInt32).toInt32).toUInt32 >>> ((2 : Int32) &&& 31).toUInt32).toInt32).toUInt32 >>> ((1 : Int32) &&& 31).toUInt32).toInt32)))])
            refine go_retI X0 hx hret hlk (hb hby d15_79) ?_ (by decide) (by decide)
            try rw [e0]
            exact ⟨congrArg (fun z => some (Value.int z)) (by simp only [ntzI, n1, n2, n3, n4, i1, i2, i3, i4, us, z0, eq_true c9_1, eq_false c23_2, eq_true c38_10, eq_true c52_11, eq_true c64_12, if_true, if_false, Int32.reduceAdd]), rfl, rfl⟩
          · refine Go.step (fun tt kk => XS.icmpYes X0.here hx rfl (pc0 := 64) (pc' := 74) rfl (hb hby d15_64) rfl (flt c64_12).2.2.2 (by decide) (by decide) kk) ?_
            show Go _ _ _ _ _ _ _ T0 (mkF m 74 #[.val (.int ((((((x ^^^ (-1 : Int32)) &&& (x - (1 : Int32))).toUInt32 >>> ((8 : Int32) &&& 31).toUInt32).toInt32).toUInt32 >>> ((4 : Int32) &&& 31).toUInt32).toInt32)), .val (.int (13 : Int32))] [])
            refine Go.step (fun tt kk => XS.iloadN X0.here hx rfl (hb hby d15_74) rfl kk) ?_
            show Go _ _ _ _ _ _ _ T0 (mkF m 75 #[.val (.int ((((((x ^^^ (-1 : Int32)) &&& (x - (1 : Int32))).toUInt32 >>> ((8 : Int32) &&& 31).toUInt32).toInt32).toUInt32 >>> ((4 : Int32) &&& 31).toUInt32).toInt32)), .val (.int (13 : Int32))] [(.int (13 : Int32))])
            refine Go.step (fun tt kk => XS.iloadN X0.here hx rfl (hb hby d15_75) rfl kk) ?_
            show Go _ _ _ _ _ _ _ T0 (mkF m 76 #[.val (.int ((((((x ^^^ (-1 : Int32)) &&& (x - (1 : Int32))).toUInt32 >>> ((8 : Int32) &&& 31).toUInt32).toInt32).toUInt32 >>> ((4 : Int32) &&& 31).toUInt32).toInt32)), .val (.int (13 : Int32))] [(.int ((((((x ^^^ (-1 : Int32)) &&& (x - (1 : Int32))).toUInt32 >>> ((8 : Int32) &&& 31).toUInt32).toInt32).toUInt32 >>> ((4 : Int32) &&& 31).toUInt32).toInt32)), (.int (13 : Int32))])
            refine Go.step (fun tt kk => XS.iconst X0.here hx rfl (hb hby d15_76) kk) ?_
            show Go _ _ _ _ _ _ _ T0 (mkF m 77 #[.val (.int ((((((x ^^^ (-1 : Int32)) &&& (x - (1 : Int32))).toUInt32 >>> ((8 : Int32) &&& 31).toUInt32).toInt32).toUInt32 >>> ((4 : Int32) &&& 31).toUInt32).toInt32)), .val (.int (13 : Int32))] [(.int (1 : Int32)), (.int ((((((x ^^^ (-1 : Int32)) &&& (x - (1 : Int32))).toUInt32 >>> ((8 : Int32) &&& 31).toUInt32).toInt32).toUInt32 >>> ((4 : Int32) &&& 31).toUInt32).toInt32)), (.int (13 : Int32))])
            refine Go.step (fun tt kk => XS.iushr X0.here hx rfl (hb hby d15_77) rfl kk) ?_
            show Go _ _ _ _ _ _ _ T0 (mkF m 78 #[.val (.int ((((((x ^^^ (-1 : Int32)) &&& (x - (1 : Int32))).toUInt32 >>> ((8 : Int32) &&& 31).toUInt32).toInt32).toUInt32 >>> ((4 : Int32) &&& 31).toUInt32).toInt32)), .val (.int (13 : Int32))] [(.int ((((((((x ^^^ (-1 : Int32)) &&& (x - (1 : Int32))).toUInt32 >>> ((8 : Int32) &&& 31).toUInt32).toInt32).toUInt32 >>> ((4 : Int32) &&& 31).toUInt32).toInt32).toUInt32 >>> ((1 : Int32) &&& 31).toUInt32).toInt32)), (.int (13 : Int32))])
            refine Go.step (fun tt kk => XS.iadd X0.here hx rfl (hb hby d15_78) rfl kk) ?_
            show Go _ _ _ _ _ _ _ T0 (mkF m 79 #[.val (.int ((((((x ^^^ (-1 : Int32)) &&& (x - (1 : Int32))).toUInt32 >>> ((8 : Int32) &&& 31).toUInt32).toInt32).toUInt32 >>> ((4 : Int32) &&& 31).toUInt32).toInt32)), .val (.int (13 : Int32))] [(.int ((13 : Int32) + ((((((((x ^^^ (-1 : Int32)) &&& (x - (1 : Int32))).toUInt32 >>> ((8 : Int32) &&& 31).toUInt32).toInt32).toUInt32 >>> ((4 : Int32) &&& 31).toUInt32).toInt32).toUInt32 >>> ((1 : Int32) &&& 31).toUInt32).toInt32)))])
            refine go_retI X0 hx hret hlk (hb hby d15_79) ?_ (by decide) (by decide)
            try rw [e0]
            exact ⟨congrArg (fun z => some (Value.int z)) (by simp only [ntzI, n1, n2, n3, n4, i1, i2, i3, i4, us, z0, eq_true c9_1, eq_false c23_2, eq_true c38_10, eq_true c52_11, eq_false c64_12, if_true, if_false, Int32.reduceAdd]), rfl, rfl⟩
        · refine Go.step (fun tt kk => XS.icmpYes X0.here hx rfl (pc0 := 52) (pc' := 62) rfl (hb hby d15_52) rfl (flt c52_11).2.2.2 (by decide) (by decide) kk) ?_
          show Go _ _ _ _ _ _ _ T0 (mkF m 62 #[.val (.int ((((x ^^^ (-1 : Int32)) &&& (x - (1 : Int32))).toUInt32 >>> ((8 : Int32) &&& 31).toUInt32).toInt32)), .val (.int (9 : Int32))] [])
          refine Go.step (fun tt kk => XS.iloadN X0.here hx rfl (hb hby d15_62) rfl kk) ?_
          show Go _ _ _ _ _ _ _ T0 (mkF m 63 #[.val (.int ((((x ^^^ (-1 : Int32)) &&& (x - (1 : Int32))).toUInt32 >>> ((8 : Int32) &&& 31).toUInt32).toInt32)), .val (.int (9 : Int32))] [(.int ((((x ^^^ (-1 : Int32)) &&& (x - (1 : Int32))).toUInt32 >>> ((8 : Int32) &&& 31).toUInt32).toInt32))])
          refine Go.step (fun tt kk => XS.iconst X0.here hx rfl (hb hby d15_63) kk) ?_
          show Go _ _ _ _ _ _ _ T0 (mkF m 64 #[.val (.int ((((x ^^^ (-1 : Int32)) &&& (x - (1 : Int32))).toUInt32 >>> ((8 : Int32) &&& 31).toUInt32).toInt32)), .val (.int (9 : Int32))] [(.int (4 : Int32)), (.int ((((x ^^^ (-1 : Int32)) &&& (x - (1 : Int32))).toUInt32 >>> ((8 : Int32) &&& 31).toUInt32).toInt32))])
          by_cases c64_13 : (4 : Int32) < ((((x ^^^ (-1 : Int32)) &&& (x - (1 : Int32))).toUInt32 >>> ((8 : Int32) &&& 31).toUInt32).toInt32)
          · refine Go.step (fun tt kk => XS.icmpNo X0.here hx rfl (hb hby d15_64) rfl (tlt c64_13).2.2.2 kk) ?_
            show Go _ _ _ _ _ _ _ T0 (mkF m 67 #[.val (.int ((((x ^^^ (-1 : Int32)) &&& (x - (1 : Int32))).toUInt32 >>> ((8 : Int32) &&& 31).toUInt32).toInt32)), .val (.int (9 : Int32))] [])
            refine Go.step (fun tt kk => XS.iinc X0.here hx rfl (hb hby d15_67) rfl (l' := #[.val (.int ((((x ^^^ (-1 : Int32)) &&& (x - (1 : Int32))).toUInt32 >>> ((8 : Int32) &&& 31).toUInt32).toInt32)), .val (.int (11 : Int32))]) rfl kk) ?_
            show Go _ _ _ _ _ _ _ T0 (mkF m 70 #[.val (.int ((((x ^^^ (-1 : Int32)) &&& (x - (1 : Int32))).toUInt32 >>> ((8 : Int32) &&& 31).toUInt32).toInt32)), .val (.int (11 : Int32))] [])
            refine Go.step (fun tt kk => XS.iloadN X0.here hx rfl (hb hby d15_70) rfl kk) ?_
            show Go _ _ _ _ _ _ _ T0 (mkF m 71 #[.val (.int ((((x ^^^ (-1 : Int32)) &&& (x - (1 : Int32))).toUInt32 >>> ((8 : Int32) &&& 31).toUInt32).toInt32)), .val (.int (11 : Int32))] [(.int ((((x ^^^ (-1 : Int32)) &&& (x - (1 : Int32))).toUInt32 >>> ((8 : Int32) &&& 31).toUInt32).toInt32))])
            refine Go.step (fun tt kk => XS.iconst X0.here hx rfl (hb hby d15_71) kk) ?_
            show Go _ _ _ _ _ _ _ T0 (mkF m 72 #[.val (.int ((((x ^^^ (-1 : Int32)) &&& (x - (1 : Int32))).toUInt32 >>> ((8 : Int32) &&& 31).toUInt32).toInt32)), .val (.int (11 : Int32))] [(.int (2 : Int32)), (.int ((((x ^^^ (-1 : Int32)) &&& (x - (1 : Int32))).toUInt32 >>> ((8 : Int32) &&& 31).toUInt32).toInt32))])
            refine Go.step (fun tt kk => XS.iushr X0.here hx rfl (hb hby d15_72) rfl kk) ?_
            show Go _ _ _ _ _ _ _ T0 (mkF m 73 #[.val (.int ((((x ^^^ (-1 : Int32)) &&& (x - (1 : Int32))).toUInt32 >>> ((8 : Int32) &&& 31).toUInt32).toInt32)), .val (.int (11 : Int32))] [(.int ((((((x ^^^ (-1 : Int32)) &&& (x - (1 : Int32))).toUInt32 >>> ((8 : Int32) &&& 31).toUInt32).toInt32).toUInt32 >>> ((2 : Int32) &&& 31).toUInt32).toInt32))])
            refine Go.step (fun tt kk => XS.istoreN X0.here hx rfl (hb hby d15_73) rfl (l' := #[.val (.int ((((((x ^^^ (-1 : Int32)) &&& (x - (1 : Int32))).toUInt32 >>> ((8 : Int32) &&& 31).toUInt32).toInt32).toUInt32 >>> ((2 : Int32) &&& 31).toUInt32).toInt32)), .val (.int (11 : Int32))]) rfl kk) ?_
            show Go _ _ _ _ _ _ _ T0 (mkF m 74 #[.val (.int ((((((x ^^^ (-1 : Int32)) &&& (x - (1 : Int32))).toUInt32 >>> ((8 : Int32) &&& 31).toUInt32).toInt32).toUInt32 >>> ((2 : Int32) &&& 31).toUInt32).toInt32)), .val (.int (11 : Int32))] [])
            refine Go.step (fun tt kk => XS.iloadN X0.here hx rfl (hb hby d15_74) rfl kk) ?_
            show Go _ _ _ _ _ _ _ T0 (mkF m 75 #[.val (.int ((((((x ^^^ (-1 : Int32)) &&& (x - (1 : Int32))).toUInt32 >>> ((8 : Int32) &&& 31).toUInt32).toInt32).toUInt32 >>> ((2 : Int32) &&& 31).toUInt32).toInt32)), .val (.int (11 : Int32))] [(.int (11 : Int32))])
            refine Go.step (fun tt kk => XS.iloadN X0.here hx rfl (hb hby d15_75) rfl kk) ?_
            show Go _ _ _ _ _ _ _ T0 (mkF m 76 #[.val (.int ((((((x ^^^ (-1 : Int32)) &&& (x - (1 : Int32))).toUInt32 >>> ((8 : Int32) &&& 31).toUInt32).toInt32).toUInt32 >>> ((2 : Int32) &&& 31).toUInt32).toInt32)), .val (.int (11 : Int32))] [(.int ((((((x ^^^ (-1 : Int32)) &&& (x - (1 : Int32))).toUInt32 >>> ((8 : Int32) &&& 31).toUInt32).toInt32).toUInt32 >>> ((2 : Int32) &&& 31).toUInt32).toInt32)), (.int (11 : Int32))])
            refine Go.step (fun tt kk => XS.iconst X0.here hx rfl (hb hby d15_76) kk) ?_
            show Go _ _ _ _ _ _ _ T0 (mkF m 77 #[.val (.int ((((((x ^^^ (-1 : Int32)) &&& (x - (1 : Int32))).toUInt32 >>> ((8 : Int32) &&& 31).toUInt32).toInt32).toUInt32 >>> ((2 : Int32) &&& 31).toUInt32).toInt32)), .val (.int (11 : Int32))] [(.int (1 : Int32)), (.int ((((((x ^^^ (-1 : Int32)) &&& (x - (1 : Int32))).toUInt32 >>> ((8 : Int32) &&& 31).toUInt32).toInt32).toUInt32 >>> ((2 : Int32) &&& 31).toUInt32).toInt32)), (.int (11 : Int32))])
            refine Go.step (fun tt kk => XS.iushr X0.here hx rfl (hb hby d15_77) rfl kk) ?_
            show Go _ _ _ _ _ _ _ T0 (mkF m 78 #[.val (.int ((((((x ^^^ (-1 : Int32)) &&& (x - (1 : Int32))).toUInt32 >>> ((8 : Int32) &&& 31).toUInt32).toInt32).toUInt32 >>> ((2 : Int32) &&& 31).toUInt32).toInt32)), .val (.int (11 : Int32))] [(.int ((((((((x ^^^ (-1 : Int32)) &&& (x - (1 : Int32))).toUInt32 >>> ((8 : Int32) &&& 31).toUInt32).toInt32).toUInt32 >>> ((2 : Int32) &&& 31).toUInt32).toInt32).toUInt32 >>> ((1 : Int32) &&& 31).toUInt32).toInt32)), (.int (11 : Int32))])
            refine Go.step (fun tt kk => XS.iadd X0.here hx rfl (hb hby d15_78) rfl kk) ?_
            show Go _ _ _ _ _ _ _ T0 (mkF m 79 #[.val (.int ((((((x ^^^ (-1 : Int32)) &&& (x - (1 : Int32))).toUInt32 >>> ((8 : Int32) &&& 31).toUInt32).toInt32).toUInt32 >>> ((2 : Int32) &&& 31).toUInt32).toInt32)), .val (.int (11 : Int32))] [(.int ((11 : Int32) + ((((((((x ^^^ (-1 : Int32)) &&& (x - (1 : Int32))).toUInt32 >>> ((8 : Int32) &&& 31).toUInt32).toInt32).toUInt32 >>> ((2 : Int32) &&& 31).toUInt32).toInt32).toUInt32 >>> ((1 : Int32) &&& 31).toUInt32).toInt32)))])
            refine go_retI X0 hx hret hlk (hb hby d15_79) ?_ (by decide) (by decide)
            try rw [e0]
            exact ⟨congrArg (fun z => some (Value.int z)) (by simp only [ntzI, n1, n2, n3, n4, i1, i2, i3, i4, us, z0, eq_true c9_1, eq_false c23_2, eq_true c38_10, eq_false c52_11, eq_true c64_13, if_true, if_false, Int32.reduceAdd]), rfl, rfl⟩
          · refine Go.step (fun tt kk => XS.icmpYes X0.here hx rfl (pc0 := 64) (pc' := 74) rfl (hb hby d15_64) rfl (flt c64_13).2.2.2 (by decide) (by decide) kk) ?_
            show Go _ _ _ _ _ _ _ T0 (mkF m 74 #[.val (.int ((((x ^^^ (-1 : Int32)) &&& (x - (1 : Int32))).toUInt32 >>> ((8 : Int32) &&& 31).toUInt32).toInt32)), .val (.int (9 : Int32))] [])
            refine Go.step (fun tt kk => XS.iloadN X0.here hx rfl (hb hby d15_74) rfl kk) ?_
            show Go _ _ _ _ _ _ _ T0 (mkF m 75 #[.val (.int ((((x ^^^ (-1 : Int32)) &&& (x - (1 : Int32))).toUInt32 >>> ((8 : Int32) &&& 31).toUInt32).toInt32)), .val (.int (9 : Int32))] [(.int (9 : Int32))])
            refine Go.step (fun tt kk => XS.iloadN X0.here hx rfl (hb hby d15_75) rfl kk) ?_
            show Go _ _ _ _ _ _ _ T0 (mkF m 76 #[.val (.int ((((x ^^^ (-1 : Int32)) &&& (x - (1 : Int32))).toUInt32 >>> ((8 : Int32) &&& 31).toUInt32).toInt32)), .val (.int (9 : Int32))] [(.int ((((x ^^^ (-1 : Int32)) &&& (x - (1 : Int32))).toUInt32 >>> ((8 : Int32) &&& 31).toUInt32).toInt32)), (.int (9 : Int32))])
            refine Go.step (fun tt kk => XS.iconst X0.here hx rfl (hb hby d15_76) kk) ?_
            show Go _ _ _ _ _ _ _ T0 (mkF m 77 #[.val (.int ((((x ^^^ (-1 : Int32)) &&& (x - (1 : Int32))).toUInt32 >>> ((8 : Int32) &&& 31).toUInt32).toInt32)), .val (.int (9 : Int32))] [(.int (1 : Int32)), (.int ((((x ^^^ (-1 : Int32)) &&& (x - (1 : Int32))).toUInt32 >>> ((8 : Int32) &&& 31).toUInt32).toInt32)), (.int (9 : Int32))])
            refine Go.step (fun tt kk => XS.iushr X0.here hx rfl (hb hby d15_77) rfl kk) ?_
            show Go _ _ _ _ _ _ _ T0 (mkF m 78 #[.val (.int ((((x ^^^ (-1 : Int32)) &&& (x - (1 : Int32))).toUInt32 >>> ((8 : Int32) &&& 31).toUInt32).toInt32)), .val (.int (9 : Int32))] [(.int ((((((x ^^^ (-1 : Int32)) &&& (x - (1 : Int32))).toUInt32 >>> ((8 : Int32) &&& 31).toUInt32).toInt32).toUInt32 >>> ((1 : Int32) &&& 31).toUInt32).toInt32)), (.int (9 : Int32))])
            refine Go.step (fun tt kk => XS.iadd X0.here hx rfl (hb hby d15_78) rfl kk) ?_
            show Go _ _ _ _ _ _ _ T0 (mkF m 79 #[.val (.int ((((x ^^^ (-1 : Int32)) &&& (x - (1 : Int32))).toUInt32 >>> ((8 : Int32) &&& 31).toUInt32).toInt32)), .val (.int (9 : Int32))] [(.int ((9 : Int32) + ((((((x ^^^ (-1 : Int32)) &&& (x - (1 : Int32))).toUInt32 >>> ((8 : Int32) &&& 31).toUInt32).toInt32).toUInt32 >>> ((1 : Int32) &&& 31).toUInt32).toInt32)))])
            refine go_retI X0 hx hret hlk (hb hby d15_79) ?_ (by decide) (by decide)
            try rw [e0]
            exact ⟨congrArg (fun z => some (Value.int z)) (by simp only [ntzI, n1, n2, n3, n4, i1, i2, i3, i4, us, z0, eq_true c9_1, eq_false c23_2, eq_true c38_10, eq_false c52_11, eq_false c64_13, if_true, if_false, Int32.reduceAdd]), rfl, rfl⟩
      · refine Go.step (fun tt kk => XS.icmpYes X0.here hx rfl (pc0 := 38) (pc' := 49) rfl (hb hby d15_38) rfl (flt c38_10).2.2.2 (by decide) (by decide) kk) ?_
        show Go _ _ _ _ _ _ _ T0 (mkF m 49 #[.val (.int ((x ^^^ (-1 : Int32)) &&& (x - (1 : Int32)))), .val (.int (1 : Int32))] [])
        refine Go.step (fun tt kk => XS.iloadN X0.here hx rfl (hb hby d15_49) rfl kk) ?_
        show Go _ _ _ _ _ _ _ T0 (mkF m 50 #[.val (.int ((x ^^^ (-1 : Int32)) &&& (x - (1 : Int32)))), .val (.int (1 : Int32))] [(.int ((x ^^^ (-1 : Int32)) &&& (x - (1 : Int32))))])
        refine Go.step (fun tt kk => XS.bipush X0.here hx rfl (hb hby d15_50) kk) ?_
        show Go _ _ _ _ _ _ _ T0 (mkF m 52 #[.val (.int ((x ^^^ (-1 : Int32)) &&& (x - (1 : Int32)))), .val (.int (1 : Int32))] [(.int (16 : Int32)), (.int ((x ^^^ (-1 : Int32)) &&& (x - (1 : Int32))))])
        by_cases c52_14 : (16 : Int32) < ((x ^^^ (-1 : Int32)) &&& (x - (1 : Int32)))
        · refine Go.step (fun tt kk => XS.icmpNo X0.here hx rfl (hb hby d15_52) rfl (tlt c52_14).2.2.2 kk) ?_
          show Go _ _ _ _ _ _ _ T0 (mkF m 55 #[.val (.int ((x ^^^ (-1 : Int32)) &&& (x - (1 : Int32)))), .val (.int (1 : Int32))] [])
          refine Go.step (fun tt kk => XS.iinc X0.here hx rfl (hb hby d15_55) rfl (l' := #[.val (.int ((x ^^^ (-1 : Int32)) &&& (x - (1 : Int32)))), .val (.int (5 : Int32))]) rfl kk) ?_
          show Go _ _ _ _ _ _ _ T0 (mkF m 58 #[.val (.int ((x ^^^ (-1 : Int32)) &&& (x - (1 : Int32)))), .val (.int (5 : Int32))] [])
          refine Go.step (fun tt kk => XS.iloadN X0.here hx rfl (hb hby d15_58) rfl kk) ?_
          show Go _ _ _ _ _ _ _ T0 (mkF m 59 #[.val (.int ((x ^^^ (-1 : Int32)) &&& (x - (1 : Int32)))), .val (.int (5 : Int32))] [(.int ((x ^^^ (-1 : Int32)) &&& (x - (1 : Int32))))])
          refine Go.step (fun tt kk => XS.iconst X0.here hx rfl (hb hby d15_59) kk) ?_
          show Go _ _ _ _ _ _ _ T0 (mkF m 60 #[.val (.int ((x ^^^ (-1 : Int32)) &&& (x - (1 : Int32)))), .val (.int (5 : Int32))] [(.int (4 : Int32)), (.int ((x ^^^ (-1 : Int32)) &&& (x - (1 : Int32))))])
          refine Go.step (fun tt kk => XS.iushr X0.here hx rfl (hb hby d15_60) rfl kk) ?_
          show Go _ _ _ _ _ _ _ T0 (mkF m 61 #[.val (.int ((x ^^^ (-1 : Int32)) &&& (x - (1 : Int32)))), .val (.int (5 : Int32))] [(.int ((((x ^^^ (-1 : Int32)) &&& (x - (1 : Int32))).toUInt32 >>> ((4 : Int32) &&& 31).toUInt32).toInt32))])
          refine Go.step (fun tt kk => XS.istoreN X0.here hx rfl (hb hby d15_61) rfl (l' := #[.val (.int ((((x ^^^ (-1 : Int32)) &&& (x - (1 : Int32))).toUInt32 >>> ((4 : Int32) &&& 31).toUInt32).toInt32)), .val (.int (5 : Int32))]) rfl kk) ?_
          show Go _ _ _ _ _ _ _ T0 (mkF m 62 #[.val (.int ((((x ^^^ (-1 : Int32)) &&& (x - (1 : Int32))).toUInt32 >>> ((4 : Int32) &&& 31).toUInt32).toInt32)), .val (.int (5 : Int32))] [])
          refine Go.step (fun tt kk => XS.iloadN X0.here hx rfl (hb hby d15_62) rfl kk) ?_
          show Go _ _ _ _ _ _ _ T0 (mkF m 63 #[.val (.int ((((x ^^^ (-1 : Int32)) &&& (x - (1 : Int32))).toUInt32 >>> ((4 : Int32) &&& 31).toUInt32).toInt32)), .val (.int (5 : Int32))] [(.int ((((x ^^^ (-1 : Int32)) &&& (x - (1 : Int32))).toUInt32 >>> ((4 : Int32) &&& 31).toUInt32).toInt32))])
          refine Go.step (fun tt kk => XS.iconst X0.here hx rfl (hb hby d15_63) kk) ?_
          show Go _ _ _ _ _ _ _ T0 (mkF m 64 #[.val (.int ((((x ^^^ (-1 : Int32)) &&& (x - (1 : Int32))).toUInt32 >>> ((4 : Int32) &&& 31).toUInt32).toInt32)), .val (.int (5 : Int32))] [(.int (4 : Int32)), (.int ((((x ^^^ (-1 : Int32)) &&& (x - (1 : Int32))).toUInt32 >>> ((4 : Int32) &&& 31).toUInt32).toInt32))])
          by_cases c64_15 : (4 : Int32) < ((((x ^^^ (-1 : Int32)) &&& (x - (1 : Int32))).toUInt32 >>> ((4 : Int32) &&& 31).toUInt32).toInt32)
          · refine Go.step (fun tt kk => XS.icmpNo X0.here hx rfl (hb hby d15_64) rfl (tlt c64_15).2.2.2 kk) ?_
            show Go _ _ _ _ _ _ _ T0 (mkF m 67 #[.val (.int ((((x ^^^ (-1 : Int32)) &&& (x - (1 : Int32))).toUInt32 >>> ((4 : Int32) &&& 31).toUInt32).toInt32)), .val (.int (5 : Int32))] [])
            refine Go.step (fun tt kk => XS.iinc X0.here hx rfl (hb hby d15_67) rfl (l' := #[.val (.int ((((x ^^^ (-1 : Int32)) &&& (x - (1 : Int32))).toUInt32 >>> ((4 : Int32) &&& 31).toUInt32).toInt32)), .val (.int (7 : Int32))]) rfl kk) ?_
            show Go _ _ _ _ _ _ _ T0 (mkF m 70 #[.val (.int ((((x ^^^ (-1 : Int32)) &&& (x - (1 : Int32))).toUInt32 >>> ((4 : Int32) &&& 31).toUInt32).toInt32)), .val (.int (7 : Int32))] [])
            refine Go.step (fun tt kk => XS.iloadN X0.here hx rfl (hb hby d15_70) rfl kk) ?_
            show Go _ _ _ _ _ _ _ T0 (mkF m 71 #[.val (.int ((((x ^^^ (-1 : Int32)) &&& (x - (1 : Int32))).toUInt32 >>> ((4 : Int32) &&& 31).toUInt32).toInt32)), .val (.int (7 : Int32))] [(.int ((((x ^^^ (-1 : Int32)) &&& (x - (1 : Int32))).toUInt32 >>> ((4 : Int32) &&& 31).toUInt32).toInt32))])
            refine Go.step (fun tt kk => XS.iconst X0.here hx rfl (hb hby d15_71) kk) ?_
            show Go _ _ _ _ _ _ _ T0 (mkF m 72 #[.val (.int ((((x ^^^ (-1 : Int32)) &&& (x - (1 : Int32))).toUInt32 >>> ((4 : Int32) &&& 31).toUInt32).toInt32)), .val (.int (7 : Int32))] [(.int (2 : Int32)), (.int ((((x ^^^ (-1 : Int32)) &&& (x - (1 : Int32))).toUInt32 >>> ((4 : Int32) &&& 31).toUInt32).toInt32))])
            refine Go.step (fun tt kk => XS.iushr X0.here hx rfl (hb hby d15_72) rfl kk) ?_
            show Go _ _ _ _ _ _ _ T0 (mkF m 73 #[.val (.int ((((x ^^^ (-1 : Int32)) &&& (x - (1 : Int32))).toUInt32 >>> ((4 : Int32) &&& 31).toUInt32).toInt32)), .val (.int (7 : Int32))] [(.int ((((((x ^^^ (-1 : Int32)) &&& (x - (1 : Int32))).toUInt32 >>> ((4 : Int32) &&& 31).toUInt32).toInt32).toUInt32 >>> ((2 : Int32) &&& 31).toUInt32).toInt32))])
            refine Go.step (fun tt kk => XS.istoreN X0.here hx rfl (hb hby d15_73) rfl (l' := #[.val (.int ((((((x ^^^ (-1 : Int32)) &&& (x - (1 : Int32))).toUInt32 >>> ((4 : Int32) &&& 31).toUInt32).toInt32).toUInt32 >>> ((2 : Int32) &&& 31).toUInt32).toInt32)), .val (.int (7 : Int32))]) rfl kk) ?_
            show Go _ _ _ _ _ _ _ T0 (mkF m 74 #[.val (.int ((((((x ^^^ (-1 : Int32)) &&& (x - (1 : Int32))).toUInt32 >>> ((4 : Int32) &&& 31).toUInt32).toInt32).toUInt32 >>> ((2 : Int32) &&& 31).toUInt32).toInt32)), .val (.int (7 : Int32))] [])
            refine Go.step (fun tt kk => XS.iloadN X0.here hx rfl (hb hby d15_74) rfl kk) ?_
            show Go _ _ _ _ _ _ _ T0 (mkF m 75 #[.val (.int ((((((x ^^^ (-1 : Int32)) &&& (x - (1 : Int32))).toUInt32 >>> ((4 : Int32) &&& 31).toUInt32).toInt32).toUInt32 >>> ((2 : Int32) &&& 31).toUInt32).toInt32)), .val (.int (7 : Int32))] [(.int (7 : Int32))])
            refine Go.step (fun tt kk => XS.iloadN X0.here hx rfl (hb hby d15_75) rfl kk) ?_
            show Go _ _ _ _ _ _ _ T0 (mkF m 76 #[.val (.int ((((((x ^^^ (-1 : Int32)) &&& (x - (1 : Int32))).toUInt32 >>> ((4 : Int32) &&& 31).toUInt32).toInt32).toUInt32 >>> ((2 : Int32) &&& 31).toUInt32).toInt32)), .val (.int (7 : Int32))] [(.int ((((((x ^^^ (-1 : Int32)) &&& (x - (1 : Int32))).toUInt32 >>> ((4 : Int32) &&& 31).toUInt32).toInt32).toUInt32 >>> ((2 : Int32) &&& 31).toUInt32).toInt32)), (.int (7 : Int32))])
            refine Go.step (fun tt kk => XS.iconst X0.here hx rfl (hb hby d15_76) kk) ?_
            show Go _ _ _ _ _ _ _ T0 (mkF m 77 #[.val (.int ((((((x ^^^ (-1 : Int32)) &&& (x - (1 : Int32))).toUInt32 >>> ((4 : Int32) &&& 31).toUInt32).toInt32).toUInt32 >>> ((2 : Int32) &&& 31).toUInt32).toInt32)), .val (.int (7 : Int32))] [(.int (1 : Int32)), (.int ((((((x ^^^ (-1 : Int32)) &&& (x - (1 : Int32))).toUInt32 >>> ((4 : Int32) &&& 31).toUInt32).toInt32).toUInt32 >>> ((2 : Int32) &&& 31).toUInt32).toInt32)), (.int (7 : Int32))])
            refine Go.step (fun tt kk => XS.iushr X0.here hx rfl (hb hby d15_77) rfl kk) ?_
            show Go _ _ _ _ _ _ _ T0 (mkF m 78 #[.val (.int ((((((x ^^^ (-1 : Int32)) &&& (x - (1 : Int32))).toUInt32 >>> ((4 : Int32) &&& 31).toUInt32).toInt32).toUInt32 >>> ((2 : Int32) &&& 31).toUInt32).toInt32)), .val (.int (7 : Int32))] [(.int ((((((((x ^^^ (-1 : Int32)) &&& (x - (1 : Int32))).toUInt32 >>> ((4 : Int32) &&& 31).toUInt32).toInt32).toUInt32 >>> ((2 : Int32) &&& 31).toUInt32).toInt32).toUInt32 >>> ((1 : Int32) &&& 31).toUInt32).toInt32)), (.int (7 : Int32))])
            refine Go.step (fun tt kk => XS.iadd X0.here hx rfl (hb hby d15_78) rfl kk) ?_
            show Go _ _ _ _ _ _ _ T0 (mkF m 79 #[.val (.int ((((((x ^^^ (-1 : Int32)) &&& (x - (1 : Int32))).toUInt32 >>> ((4 : Int32) &&& 31).toUInt32).toInt32).toUInt32 >>> ((2 : Int32) &&& 31).toUInt32).toInt32)), .val (.int (7 : Int32))] [(.int ((7 : Int32) + ((((((((x ^^^ (-1 : Int32)) &&& (x - (1 : Int32))).toUInt32 >>> ((4 : Int32) &&& 31).toUInt32).toInt32).toUInt32 >>> ((2 : Int32) &&& 31).toUInt32).toInt32).toUInt32 >>> ((1 : Int32) &&& 31).toUInt32).toInt32)))])
            refine go_retI X0 hx hret hlk (hb hby d15_79) ?_ (by decide) (by decide)
            try rw [e0]
            exact ⟨congrArg (fun z => some (Value.int z)) (by simp only [ntzI, n1, n2, n3, n4, i1, i2, i3, i4, us, z0, eq_true c9_1, eq_false c23_2, eq_false c38_10, eq_true c52_14, eq_true c64_15, if_true, if_false, Int32.reduceAdd]), rfl, rfl⟩
          · refine Go.step (fun tt kk => XS.icmpYes X0.here hx rfl (pc0 := 64) (pc' := 74) rfl (hb hby d15_64) rfl (flt c64_15).2.2.2 (by decide) (by decide) kk) ?_
            show Go _ _ _ _ _ _ _ T0 (mkF m 74 #[.val (.int ((((x ^^^ (-1 : Int32)) &&& (x - (1 : Int32))).toUInt32 >>> ((4 : Int32) &&& 31).toUInt32).toInt32)), .val (.int (5 : Int32))] [])
            refine Go.step (fun tt kk => XS.iloadN X0.here hx rfl (hb hby d15_74) rfl kk) ?_
            show Go _ _ _ _ _ _ _ T0 (mkF m 75 #[.val (.int ((((x ^^^ (-1 : Int32)) &&& (x - (1 : Int32))).toUInt32 >>> ((4 : Int32) &&& 31).toUInt32).toInt32)), .val (.int (5 : Int32))] [(.int (5 : Int32))])
            refine Go.step (fun tt kk => XS.iloadN X0.here hx rfl (hb hby d15_75) rfl kk) ?_
            show Go _ _ _ _ _ _ _ T0 (mkF m 76 #[.val (.int ((((x ^^^ (-1 : Int32)) &&& (x - (1 : Int32))).toUInt32 >>> ((4 : Int32) &&& 31).toUInt32).toInt32)), .val (.int (5 : Int32))] [(.int ((((x ^^^ (-1 : Int32)) &&& (x - (1 : Int32))).toUInt32 >>> ((4 : Int32) &&& 31).toUInt32).toInt32)), (.int (5 : Int32))])
            refine Go.step (fun tt kk => XS.iconst X0.here hx rfl (hb hby d15_76) kk) ?_
            show Go _ _ _ _ _ _ _ T0 (mkF m 77 #[.val (.int ((((x ^^^ (-1 : Int32)) &&& (x - (1 : Int32))).toUInt32 >>> ((4 : Int32) &&& 31).toUInt32).toInt32)), .val (.int (5 : Int32))] [(.int (1 : Int32)), (.int ((((x ^^^ (-1 : Int32)) &&& (x - (1 : Int32))).toUInt32 >>> ((4 : Int32) &&& 31).toUInt32).toInt32)), (.int (5 : Int32))])
            refine Go.step (fun tt kk => XS.iushr X0.here hx rfl (hb hby d15_77) rfl kk) ?_
            show Go _ _ _ _ _ _ _ T0 (mkF m 78 #[.val (.int ((((x ^^^ (-1 : Int32)) &&& (x - (1 : Int32))).toUInt32 >>> ((4 : Int32) &&& 31).toUInt32).toInt32)), .val (.int (5 : Int32))] [(.int ((((((x ^^^ (-1 : Int32)) &&& (x - (1 : Int32))).toUInt32 >>> ((4 : Int32) &&& 31).toUInt32).toInt32).toUInt32 >>> ((1 : Int32) &&& 31).toUInt32).toInt32)), (.int (5 : Int32))])
            refine Go.step (fun tt kk => XS.iadd X0.here hx rfl (hb hby d15_78) rfl kk) ?_
            show Go _ _ _ _ _ _ _ T0 (mkF m 79 #[.val (.int ((((x ^^^ (-1 : Int32)) &&& (x - (1 : Int32))).toUInt32 >>> ((4 : Int32) &&& 31).toUInt32).toInt32)), .val (.int (5 : Int32))] [(.int ((5 : Int32) + ((((((x ^^^ (-1 : Int32)) &&& (x - (1 : Int32))).toUInt32 >>> ((4 : Int32) &&& 31).toUInt32).toInt32).toUInt32 >>> ((1 : Int32) &&& 31).toUInt32).toInt32)))])
            refine go_retI X0 hx hret hlk (hb hby d15_79) ?_ (by decide) (by decide)
            try rw [e0]
            exact ⟨congrArg (fun z => some (Value.int z)) (by simp only [ntzI, n1, n2, n3, n4, i1, i2, i3, i4, us, z0, eq_true c9_1, eq_false c23_2, eq_false c38_10, eq_true c52_14, eq_false c64_15, if_true, if_false, Int32.reduceAdd]), rfl, rfl⟩
        · refine Go.step (fun tt kk => XS.icmpYes X0.here hx rfl (pc0 := 52) (pc' := 62) rfl (hb hby d15_52) rfl (flt c52_14).2.2.2 (by decide) (by decide) kk) ?_
          show Go _ _ _ _ _ _ _ T0 (mkF m 62 #[.val (.int ((x ^^^ (-1 : Int32)) &&& (x - (1 : Int32)))), .val (.int (1 : Int32))] [])
          refine Go.step (fun tt kk => XS.iloadN X0.here hx rfl (hb hby d15_62) rfl kk) ?_
          show Go _ _ _ _ _ _ _ T0 (mkF m 63 #[.val (.int ((x ^^^ (-1 : Int32)) &&& (x - (1 : Int32)))), .val (.int (1 : Int32))] [(.int ((x ^^^ (-1 : Int32)) &&& (x - (1 : Int32))))])
          refine Go.step (fun tt kk => XS.iconst X0.here hx rfl (hb hby d15_63) kk) ?_
          show Go _ _ _ _ _ _ _ T0 (mkF m 64 #[.val (.int ((x ^^^ (-1 : Int32)) &&& (x - (1 : Int32)))), .val (.int (1 : Int32))] [(.int (4 : Int32)), (.int ((x ^^^ (-1 : Int32)) &&& (x - (1 : Int32))))])
          by_cases c64_16 : (4 : Int32) < ((x ^^^ (-1 : Int32)) &&& (x - (1 : Int32)))
          · refine Go.step (fun tt kk => XS.icmpNo X0.here hx rfl (hb hby d15_64) rfl (tlt c64_16).2.2.2 kk) ?_
            show Go _ _ _ _ _ _ _ T0 (mkF m 67 #[.val (.int ((x ^^^ (-1 : Int32)) &&& (x - (1 : Int32)))), .val (.int (1 : Int32))] [])
            refine Go.step (fun tt kk => XS.iinc X0.here hx rfl (hb hby d15_67) rfl (l' := #[.val (.int ((x ^^^ (-1 : Int32)) &&& (x - (1 : Int32)))), .val (.int (3 : Int32))]) rfl kk) ?_
            show Go _ _ _ _ _ _ _ T0 (mkF m 70 #[.val (.int ((x ^^^ (-1 : Int32)) &&& (x - (1 : Int32)))), .val (.int (3 : Int32))] [])
            refine Go.step (fun tt kk => XS.iloadN X0.here hx rfl (hb hby d15_70) rfl kk) ?_
            show Go _ _ _ _ _ _ _ T0 (mkF m 71 #[.val (.int ((x ^^^ (-1 : Int32)) &&& (x - (1 : Int32)))), .val (.int (3 : Int32))] [(.int ((x ^^^ (-1 : Int32)) &&& (x - (1 : Int32))))])
            refine Go.step (fun tt kk => XS.iconst X0.here hx rfl (hb hby d15_71) kk) ?_
            show Go _ _ _ _ _ _ _ T0 (mkF m 72 #[.val (.int ((x ^^^ (-1 : Int32)) &&& (x - (1 : Int32)))), .val (.int (3 : Int32))] [(.int (2 : Int32)), (.int ((x ^^^ (-1 : Int32)) &&& (x - (1 : Int32))))])
            refine Go.step (fun tt kk => XS.iushr X0.here hx rfl (hb hby d15_72) rfl kk) ?_
            show Go _ _ _ _ _ _ _ T0 (mkF m 73 #[.val (.int ((x ^^^ (-1 : Int32)) &&& (x - (1 : Int32)))), .val (.int (3 : Int32))] [(.int ((((x ^^^ (-1 : Int32)) &&& (x - (1 : Int32))).toUInt32 >>> ((2 : Int32) &&& 31).toUInt32).toInt32))])
            refine Go.step (fun tt kk => XS.istoreN X0.here hx rfl (hb hby d15_73) rfl (l' := #[.val (.int ((((x ^^^ (-1 : Int32)) &&& (x - (1 : Int32))).toUInt32 >>> ((2 : Int32) &&& 31).toUInt32).toInt32)), .val (.int (3 : Int32))]) rfl kk) ?_
            show Go _ _ _ _ _ _ _ T0 (mkF m 74 #[.val (.int ((((x ^^^ (-1 : Int32)) &&& (x - (1 : Int32))).toUInt32 >>> ((2 : Int32) &&& 31).toUInt32).toInt32)), .val (.int (3 : Int32))] [])
            refine Go.step (fun tt kk => XS.iloadN X0.here hx rfl (hb hby d15_74) rfl kk) ?_
            show Go _ _ _ _ _ _ _ T0 (mkF m 75 #[.val (.int ((((x ^^^ (-1 : Int32)) &&& (x - (1 : Int32))).toUInt32 >>> ((2 : Int32) &&& 31).toUInt32).toInt32)), .val (.int (3 : Int32))] [(.int (3 : Int32))])
            refine Go.step (fun tt kk => XS.iloadN X0.here hx rfl (hb hby d15_75) rfl kk) ?_
            show Go _ _ _ _ _ _ _ T0 (mkF m 76 #[.val (.int ((((x ^^^ (-1 : Int32)) &&& (x - (1 : Int32))).toUInt32 >>> ((2 : Int32) &&& 31).toUInt32).toInt32)), .val (.int (3 : Int32))] [(.int ((((x ^^^ (-1 : Int32)) &&& (x - (1 : Int32))).toUInt32 >>> ((2 : Int32) &&& 31).toUInt32).toInt32)), (.int (3 : Int32))])
            refine Go.step (fun tt kk => XS.iconst X0.here hx rfl (hb hby d15_76) kk) ?_
            show Go _ _ _ _ _ _ _ T0 (mkF m 77 #[.val (.int ((((x ^^^ (-1 : Int32)) &&& (x - (1 : Int32))).toUInt32 >>> ((2 : Int32) &&& 31).toUInt32).toInt32)), .val (.int (3 : Int32))] [(.int (1 : Int32)), (.int ((((x ^^^ (-1 : Int32)) &&& (x - (1 : Int32))).toUInt32 >>> ((2 : Int32) &&& 31).toUInt32).toInt32)), (.int (3 : Int32))])
            refine Go.step (fun tt kk => XS.iushr X0.here hx rfl (hb hby d15_77) rfl kk) ?_
            show Go _ _ _ _ _ _ _ T0 (mkF m 78 #[.val (.int ((((x ^^^ (-1 : Int32)) &&& (x - (1 : Int32))).toUInt32 >>> ((2 : Int32) &&& 31).toUInt32).toInt32)), .val (.int (3 : Int32))] [(.int ((((((x ^^^ (-1 : Int32)) &&& (x - (1 : Int32))).toUInt32 >>> ((2 : Int32) &&& 31).toUInt32).toInt32).toUInt32 >>> ((1 : Int32) &&& 31).toUInt32).toInt32)), (.int (3 : Int32))])
            refine Go.step (fun tt kk => XS.iadd X0.here hx rfl (hb hby d15_78) rfl kk) ?_
            show Go _ _ _ _ _ _ _ T0 (mkF m 79 #[.val (.int ((((x ^^^ (-1 : Int32)) &&& (x - (1 : Int32))).toUInt32 >>> ((2 : Int32) &&& 31).toUInt32).toInt32)), .val (.int (3 : Int32))] [(.int ((3 : Int32) + ((((((x ^^^ (-1 : Int32)) &&& (x - (1 : Int32))).toUInt32 >>> ((2 : Int32) &&& 31).toUInt32).toInt32).toUInt32 >>> ((1 : Int32) &&& 31).toUInt32).toInt32)))])
            refine go_retI X0 hx hret hlk (hb hby d15_79) ?_ (by decide) (by decide)
            try rw [e0]
            exact ⟨congrArg (fun z => some (Value.int z)) (by simp only [ntzI, n1, n2, n3, n4, i1, i2, i3, i4, us, z0, eq_true c9_1, eq_false c23_2, eq_false c38_10, eq_false c52_14, eq_true c64_16, if_true, if_false, Int32.reduceAdd]), rfl, rfl⟩
          · refine Go.step (fun tt kk => XS.icmpYes X0.here hx rfl (pc0 := 64) (pc' := 74) rfl (hb hby d15_64) rfl (flt c64_16).2.2.2 (by decide) (by decide) kk) ?_
            show Go _ _ _ _ _ _ _ T0 (mkF m 74 #[.val (.int ((x ^^^ (-1 : Int32)) &&& (x - (1 : Int32)))), .val (.int (1 : Int32))] [])
            refine Go.step (fun tt kk => XS.iloadN X0.here hx rfl (hb hby d15_74) rfl kk) ?_
            show Go _ _ _ _ _ _ _ T0 (mkF m 75 #[.val (.int ((x ^^^ (-1 : Int32)) &&& (x - (1 : Int32)))), .val (.int (1 : Int32))] [(.int (1 : Int32))])
            refine Go.step (fun tt kk => XS.iloadN X0.here hx rfl (hb hby d15_75) rfl kk) ?_
            show Go _ _ _ _ _ _ _ T0 (mkF m 76 #[.val (.int ((x ^^^ (-1 : Int32)) &&& (x - (1 : Int32)))), .val (.int (1 : Int32))] [(.int ((x ^^^ (-1 : Int32)) &&& (x - (1 : Int32)))), (.int (1 : Int32))])
            refine Go.step (fun tt kk => XS.iconst X0.here hx rfl (hb hby d15_76) kk) ?_
            show Go _ _ _ _ _ _ _ T0 (mkF m 77 #[.val (.int ((x ^^^ (-1 : Int32)) &&& (x - (1 : Int32)))), .val (.int (1 : Int32))] [(.int (1 : Int32)), (.int ((x ^^^ (-1 : Int32)) &&& (x - (1 : Int32)))), (.int (1 : Int32))])
            refine Go.step (fun tt kk => XS.iushr X0.here hx rfl (hb hby d15_77) rfl kk) ?_
            show Go _ _ _ _ _ _ _ T0 (mkF m 78 #[.val (.int ((x ^^^ (-1 : Int32)) &&& (x - (1 : Int32)))), .val (.int (1 : Int32))] [(.int ((((x ^^^ (-1 : Int32)) &&& (x - (1 : Int32))).toUInt32 >>> ((1 : Int32) &&& 31).toUInt32).toInt32)), (.int (1 : Int32))])
            refine Go.step (fun tt kk => XS.iadd X0.here hx rfl (hb hby d15_78) rfl kk) ?_
            show Go _ _ _ _ _ _ _ T0 (mkF m 79 #[.val (.int ((x ^^^ (-1 : Int32)) &&& (x - (1 : Int32)))), .val (.int (1 : Int32))] [(.int ((1 : Int32) + ((((x ^^^ (-1 : Int32)) &&& (x - (1 : Int32))).toUInt32 >>> ((1 : Int32) &&& 31).toUInt32).toInt32)))])
            refine go_retI X0 hx hret hlk (hb hby d15_79) ?_ (by decide) (by decide)
            try rw [e0]
            exact ⟨congrArg (fun z => some (Value.int z)) (by simp only [ntzI, n1, n2, n3, n4, i1, i2, i3, i4, us, z0, eq_true c9_1, eq_false c23_2, eq_false c38_10, eq_false c52_14, eq_false c64_16, if_true, if_false, Int32.reduceAdd]), rfl, rfl⟩
  · refine Go.step (fun tt kk => XS.ifNo X0.here hx rfl (hb hby d15_9) rfl ((if0 _ _).trans (flt c9_1).2.2.1) kk) ?_
    show Go _ _ _ _ _ _ _ T0 (mkF m 12 #[.val (.int ((x ^^^ (-1 : Int32)) &&& (x - (1 : Int32)))), .unset] [])
    refine Go.step (fun tt kk => XS.iloadN X0.here hx rfl (hb hby d15_12) rfl kk) ?_
    show Go _ _ _ _ _ _ _ T0 (mkF m 13 #[.val (.int ((x ^^^ (-1 : Int32)) &&& (x - (1 : Int32)))), .unset] [(.int ((x ^^^ (-1 : Int32)) &&& (x - (1 : Int32))))])
    refine Go.step (fun tt kk => XS.bipush X0.here hx rfl (hb hby d15_13) kk) ?_
    show Go _ _ _ _ _ _ _ T0 (mkF m 15 #[.val (.int ((x ^^^ (-1 : Int32)) &&& (x - (1 : Int32)))), .unset] [(.int (32 : Int32)), (.int ((x ^^^ (-1 : Int32)) &&& (x - (1 : Int32))))])
    refine Go.step (fun tt kk => XS.iand X0.here hx rfl (hb hby d15_15) rfl kk) ?_
    show Go _ _ _ _ _ _ _ T0 (mkF m 16 #[.val (.int ((x ^^^ (-1 : Int32)) &&& (x - (1 : Int32)))), .unset] [(.int (((x ^^^ (-1 : Int32)) &&& (x - (1 : Int32))) &&& (32 : Int32)))])
    refine go_retI X0 hx hret hlk (hb hby d15_16) ?_ (by decide) (by decide)
    try rw [e0]
    exact ⟨congrArg (fun z => some (Value.int z)) (by simp only [ntzI, n1, n2, n3, n4, i1, i2, i3, i4, us, z0, eq_false c9_1, if_true, if_false, Int32.reduceAdd]), rfl, rfl⟩
theorem ef_rmtl (m : MethodId) (x0 : Int64) : entryFrame m #[(.long x0)] 3 = mkF m 0 #[.val (.long x0), .second, .unset] [] := by first | (simp [entryFrame, mkF, argsToLocals, Value.category]; done) | rfl
theorem pn_2 : plainName "java/lang/Long" = true := by first | (simp [plainName, overriddenIn]; done) | decide +kernel
theorem d14_0 : decode jdk_35_method_49_code 0 = .ok (.lload_n 0, 1) := by decide +kernel
theorem d14_1 : decode jdk_35_method_49_code 1 = .ok (.l2i, 1) := by decide +kernel
theorem d14_2 : decode jdk_35_method_49_code 2 = .ok (.istore_n 2, 1) := by decide +kernel
theorem d14_3 : decode jdk_35_method_49_code 3 = .ok (.iload_n 2, 1) := by decide +kernel
theorem d14_4 : decode jdk_35_method_49_code 4 = .ok (.ifCond .ne 17, 3) := by decide +kernel
theorem d14_7 : decode jdk_35_method_49_code 7 = .ok (.bipush 32, 2) := by decide +kernel
theorem d14_9 : decode jdk_35_method_49_code 9 = .ok (.lload_n 0, 1) := by decide +kernel
theorem d14_10 : decode jdk_35_method_49_code 10 = .ok (.bipush 32, 2) := by decide +kernel
theorem d14_12 : decode jdk_35_method_49_code 12 = .ok (.lushr, 1) := by decide +kernel
theorem d14_13 : decode jdk_35_method_49_code 13 = .ok (.l2i, 1) := by decide +kernel
theorem d14_14 : decode jdk_35_method_49_code 14 = .ok (.invokestatic 311, 3) := by decide +kernel
theorem d14_17 : decode jdk_35_method_49_code 17 = .ok (.iadd, 1) := by decide +kernel
theorem d14_18 : decode jdk_35_method_49_code 18 = .ok (.goto 7, 3) := by decide +kernel
theorem d14_25 : decode jdk_35_method_49_code 25 = .ok (.ireturn, 1) := by decide +kernel
theorem d14_21 : decode jdk_35_method_49_code 21 = .ok (.iload_n 2, 1) := by decide +kernel
theorem d14_22 : decode jdk_35_method_49_code 22 = .ok (.invokestatic 311, 3) := by decide +kernel
set_option maxRecDepth 65536 in
set_option maxHeartbeats 40000000 in
theorem rmtl (l : Launch) (Z : State) (a0 : Array Value) (hw : ∀ d ∈ tables_1, d.before a0 Z = true) (ws : List Jvm.Cond) (x : Int64) (h0 : Heap) (n0 : Nat) (Z0 : n0 ≤ h0.size)  :
    Ctr l Z (⟨"java/lang/Long", "numberOfTrailingZeros", "(J)I"⟩ : MethodName) jdk_35_method_49_code 3 (some .int) ws ({ frames := 1, cells := 0, slots := 0, locals := 14 } : Room) 0 0 #[(.long x)] h0 (fun v h L => v = some (.int (ntz x)) ∧ L = [] ∧ h = h0) := by
  refine Ctr.mk (plainFor_of_name pn_2) fun p e s m below meth c T0 X0 C e0 => go_cast (ef_rmtl m x) ?_
  have N0 := Fr.nil n0
  obtain ⟨hx, hZ, hby, hml, hown, hnm, hret, hlk⟩ := C
  show Go _ _ _ _ _ _ _ T0 (mkF m 0 #[.val (.long x), .second, .unset] [])
  refine Go.step (fun tt kk => XS.lloadN X0.here hx rfl (hb hby d14_0) rfl kk) ?_
  show Go _ _ _ _ _ _ _ T0 (mkF m 1 #[.val (.long x), .second, .unset] [(.long x)])
  refine Go.step (fun tt kk => XS.l2i X0.here hx rfl (hb hby d14_1) rfl kk) ?_
  show Go _ _ _ _ _ _ _ T0 (mkF m 2 #[.val (.long x), .second, .unset] [(.int (x.toInt32))])
  refine Go.step (fun tt kk => XS.istoreN X0.here hx rfl (hb hby d14_2) rfl (l' := #[.val (.long x), .second, .val (.int (x.toInt32))]) rfl kk) ?_
  show Go _ _ _ _ _ _ _ T0 (mkF m 3 #[.val (.long x), .second, .val (.int (x.toInt32))] [])
  refine Go.step (fun tt kk => XS.iloadN X0.here hx rfl (hb hby d14_3) rfl kk) ?_
  show Go _ _ _ _ _ _ _ T0 (mkF m 4 #[.val (.long x), .second, .val (.int (x.toInt32))] [(.int (x.toInt32))])
  by_cases c4_1 : (x.toInt32) = (0 : Int32)
  · refine Go.step (fun tt kk => XS.ifNo X0.here hx rfl (hb hby d14_4) rfl ((if0 _ _).trans (teq c4_1).2) kk) ?_
    show Go _ _ _ _ _ _ _ T0 (mkF m 7 #[.val (.long x), .second, .val (.int (x.toInt32))] [])
    refine Go.step (fun tt kk => XS.bipush X0.here hx rfl (hb hby d14_7) kk) ?_
    show Go _ _ _ _ _ _ _ T0 (mkF m 9 #[.val (.long x), .second, .val (.int (x.toInt32))] [(.int (32 : Int32))])
    refine Go.step (fun tt kk => XS.lloadN X0.here hx rfl (hb hby d14_9) rfl kk) ?_
    show Go _ _ _ _ _ _ _ T0 (mkF m 10 #[.val (.long x), .second, .val (.int (x.toInt32))] [(.long x), (.int (32 : Int32))])
    refine Go.step (fun tt kk => XS.bipush X0.here hx rfl (hb hby d14_10) kk) ?_
    show Go _ _ _ _ _ _ _ T0 (mkF m 12 #[.val (.long x), .second, .val (.int (x.toInt32))] [(.int (32 : Int32)), (.long x), (.int (32 : Int32))])
    refine Go.step (fun tt kk => XS.lushr X0.here hx rfl (hb hby d14_12) rfl kk) ?_
    show Go _ _ _ _ _ _ _ T0 (mkF m 13 #[.val (.long x), .second, .val (.int (x.toInt32))] [(.long ((x.toUInt64 >>> ((32 : Int32) &&& 0x3f).toInt64.toUInt64).toInt64)), (.int (32 : Int32))])
    refine Go.step (fun tt kk => XS.l2i X0.here hx rfl (hb hby d14_13) rfl kk) ?_
    show Go _ _ _ _ _ _ _ T0 (mkF m 14 #[.val (.long x), .second, .val (.int (x.toInt32))] [(.int (((x.toUInt64 >>> ((32 : Int32) &&& 0x3f).toInt64.toUInt64).toInt64).toInt32)), (.int (32 : Int32))])
    obtain ⟨v2, T2, L2, X2, q2, st2⟩ := c_static X0 hx hZ hown (y := (⟨"java/lang/Integer", "numberOfTrailingZeros", "(I)I"⟩ : MethodName)) (hw _ (List.mem_of_getElem? (i := 110) rfl)) (hw _ (List.mem_of_getElem? (i := 111) rfl)) (hw _ (List.mem_of_getElem? (i := 112) rfl)) (hw _ (List.mem_of_getElem? (i := 113) rfl)) (by decide) (argsL := [(.int (((x.toUInt64 >>> ((32 : Int32) &&& 0x3f).toInt64.toUInt64).toInt64).toInt32))]) (rest := [(.int (32 : Int32))]) (rmti l Z a0 hw [] (((x.toUInt64 >>> ((32 : Int32) &&& 0x3f).toInt64.toUInt64).toInt64).toInt32) h0 n0 Z0) e0 pd_1 rfl (by rw [hml]; rfl) (W := 1) (by show 2 * 0 + _ ≤ _; exact Nat.le_of_eq rfl) (by decide) (by decide) (by decide) (by decide) (hb hby d14_14) (Ls := #[.val (.long x), .second, .val (.int (x.toInt32))])
    obtain ⟨rfl, rfl, e2⟩ := q2
    have N2 := Fr.app N0 (Fr.nil n0)
    refine Go.step (st2) ?_
    show Go _ _ _ _ _ _ _ T2 (mkF m 17 #[.val (.long x), .second, .val (.int (x.toInt32))] [(.int (ntzI (((x.toUInt64 >>> ((32 : Int32) &&& 0x3f).toInt64.toUInt64).toInt64).toInt32))), (.int (32 : Int32))])
    refine Go.step (fun tt kk => XS.iadd X2.here hx rfl (hb hby d14_17) rfl kk) ?_
    show Go _ _ _ _ _ _ _ T2 (mkF m 18 #[.val (.long x), .second, .val (.int (x.toInt32))] [(.int ((32 : Int32) + (ntzI (((x.toUInt64 >>> ((32 : Int32) &&& 0x3f).toInt64.toUInt64).toInt64).toInt32))))])
    refine Go.step (fun tt kk => XS.goto X2.here hx rfl (pc0 := 18) (pc' := 25) rfl (hb hby d14_18) (by decide) (by decide) kk) ?_
    show Go _ _ _ _ _ _ _ T2 (mkF m 25 #[.val (.long x), .second, .val (.int (x.toInt32))] [(.int ((32 : Int32) + (ntzI (((x.toUInt64 >>> ((32 : Int32) &&& 0x3f).toInt64.toUInt64).toInt64).toInt32))))])
    refine go_retI X2 hx hret hlk (hb hby d14_25) ?_ (by decide) (by decide)
    try rw [e2]
    exact ⟨congrArg (fun z => some (Value.int z)) (by unfold ntz; rw [if_pos c4_1]), rfl, rfl⟩
  · refine Go.step (fun tt kk => XS.ifYes X0.here hx rfl (pc0 := 4) (pc' := 21) rfl (hb hby d14_4) rfl ((if0 _ _).trans (feq c4_1).2) (by decide) (by decide) kk) ?_
    show Go _ _ _ _ _ _ _ T0 (mkF m 21 #[.val (.long x), .second, .val (.int (x.toInt32))] [])
    refine Go.step (fun tt kk => XS.iloadN X0.here hx rfl (hb hby d14_21) rfl kk) ?_
    show Go _ _ _ _ _ _ _ T0 (mkF m 22 #[.val (.long x), .second, .val (.int (x.toInt32))] [(.int (x.toInt32))])
    obtain ⟨v3, T3, L3, X3, q3, st3⟩ := c_static X0 hx hZ hown (y := (⟨"java/lang/Integer", "numberOfTrailingZeros", "(I)I"⟩ : MethodName)) (hw _ (List.mem_of_getElem? (i := 110) rfl)) (hw _ (List.mem_of_getElem? (i := 111) rfl)) (hw _ (List.mem_of_getElem? (i := 112) rfl)) (hw _ (List.mem_of_getElem? (i := 113) rfl)) (by decide) (argsL := [(.int (x.toInt32))]) (rest := []) (rmti l Z a0 hw [] (x.toInt32) h0 n0 Z0) e0 pd_1 rfl (by rw [hml]; rfl) (W := 0) (by show 2 * 0 + _ ≤ _; exact Nat.le_of_eq rfl) (by decide) (by decide) (by decide) (by decide) (hb hby d14_22) (Ls := #[.val (.long x), .second, .val (.int (x.toInt32))])
    obtain ⟨rfl, rfl, e3⟩ := q3
    have N3 := Fr.app N0 (Fr.nil n0)
    refine Go.step (st3) ?_
    show Go _ _ _ _ _ _ _ T3 (mkF m 25 #[.val (.long x), .second, .val (.int (x.toInt32))] [(.int (ntzI (x.toInt32)))])
    refine go_retI X3 hx hret hlk (hb hby d14_25) ?_ (by decide) (by decide)
    try rw [e3]
    exact ⟨congrArg (fun z => some (Value.int z)) (by unfold ntz; rw [if_neg c4_1]), rfl, rfl⟩
theorem ef_rmDi (m : MethodId) (x0 : Addr) (x1 : Int32) (x2 : Int32) : entryFrame m #[(.ref x0), (.int x1), (.int x2)] 3 = mkF m 0 #[.val (.ref x0), .val (.int x1), .val (.int x2)] [] := by first | (simp [entryFrame, mkF, argsToLocals, Value.category]; done) | rfl
theorem pn_3 : plainName "com/example/gridwright/gridwright/engine/Draft" = true := by first | (simp [plainName, overriddenIn]; done) | decide +kernel
theorem d2_0 : decode prog_49_method_1_code 0 = .ok (.aload_n 0, 1) := by decide +kernel
theorem d2_1 : decode prog_49_method_1_code 1 = .ok (.invokespecial 1, 3) := by decide +kernel
theorem d2_4 : decode prog_49_method_1_code 4 = .ok (.aload_n 0, 1) := by decide +kernel
theorem d2_5 : decode prog_49_method_1_code 5 = .ok (.iload_n 1, 1) := by decide +kernel
theorem d2_6 : decode prog_49_method_1_code 6 = .ok (.putfield 7, 3) := by decide +kernel
theorem d2_9 : decode prog_49_method_1_code 9 = .ok (.aload_n 0, 1) := by decide +kernel
theorem d2_10 : decode prog_49_method_1_code 10 = .ok (.iload_n 2, 1) := by decide +kernel
theorem d2_11 : decode prog_49_method_1_code 11 = .ok (.putfield 13, 3) := by decide +kernel
theorem d2_14 : decode prog_49_method_1_code 14 = .ok (.return_, 1) := by decide +kernel
set_option maxRecDepth 65536 in
set_option maxHeartbeats 40000000 in
theorem rmDi (l : Launch) (Z : State) (a0 : Array Value) (hw : ∀ d ∈ tables_1, d.before a0 Z = true) (ws : List Jvm.Cond) (a : Addr) (x1 x2 : Int32) (h0 : Heap) (n0 : Nat) (Z0 : n0 ≤ h0.size) (E_a : Exa Z h0 a "com/example/gridwright/gridwright/engine/SmallDraft") (F_0 : Fld Z h0 a "com/example/gridwright/gridwright/engine/Draft" "width" "I" (.int (0 : Int32))) (F_1 : Fld Z h0 a "com/example/gridwright/gridwright/engine/Draft" "height" "I" (.int (0 : Int32))) (F_2 : Fld Z h0 a "com/example/gridwright/gridwright/engine/Draft" "taken" "J" (.long (0 : Int64))) (F_3 : Fld Z h0 a "com/example/gridwright/gridwright/engine/Draft" "decided" "I" (.int (0 : Int32))) (F_4 : Fld Z h0 a "com/example/gridwright/gridwright/engine/SmallDraft" "grid" "Lcom/example/gridwright/gridwright/engine/Grid;" .null) (F_5 : Fld Z h0 a "com/example/gridwright/gridwright/engine/SmallDraft" "filled" "[J" .null) (F_6 : Fld Z h0 a "com/example/gridwright/gridwright/engine/SmallDraft" "empty" "[J" .null) (F_7 : Fld Z h0 a "com/example/gridwright/gridwright/engine/SmallDraft" "changedRows" "J" (.long (0 : Int64))) (F_8 : Fld Z h0 a "com/example/gridwright/gridwright/engine/SmallDraft" "changedColumns" "J" (.long (0 : Int64))) (F_9 : Fld Z h0 a "com/example/gridwright/gridwright/engine/SmallDraft" "waitingRows" "J" (.long (0 : Int64))) (F_10 : Fld Z h0 a "com/example/gridwright/gridwright/engine/SmallDraft" "waitingColumns" "J" (.long (0 : Int64))) (F_11 : Fld Z h0 a "com/example/gridwright/gridwright/engine/SmallDraft" "rows" "Z" (.int (0 : Int32))) (g_a : n0 ≤ a) :
    Ctr l Z (⟨"com/example/gridwright/gridwright/engine/Draft", "<init>", "(II)V"⟩ : MethodName) prog_49_method_1_code 3 none ws ({ frames := 1, cells := 0, slots := 0, locals := 12 } : Room) 0 0 #[(.ref a), (.int x1), (.int x2)] h0 (fun v h L => v = none ∧ Fr n0 L ∧ Keep h0 h [a] ∧ Exa Z h a "com/example/gridwright/gridwright/engine/SmallDraft" ∧ Fld Z h a "com/example/gridwright/gridwright/engine/Draft" "width" "I" (.int x1) ∧ Fld Z h a "com/example/gridwright/gridwright/engine/Draft" "height" "I" (.int x2) ∧ Fld Z h a "com/example/gridwright/gridwright/engine/Draft" "taken" "J" (.long (0 : Int64)) ∧ Fld Z h a "com/example/gridwright/gridwright/engine/Draft" "decided" "I" (.int (0 : Int32)) ∧ Fld Z h a "com/example/gridwright/gridwright/engine/SmallDraft" "grid" "Lcom/example/gridwright/gridwright/engine/Grid;" .null ∧ Fld Z h a "com/example/gridwright/gridwright/engine/SmallDraft" "filled" "[J" .null ∧ Fld Z h a "com/example/gridwright/gridwright/engine/SmallDraft" "empty" "[J" .null ∧ Fld Z h a "com/example/gridwright/gridwright/engine/SmallDraft" "changedRows" "J" (.long (0 : Int64)) ∧ Fld Z h a "com/example/gridwright/gridwright/engine/SmallDraft" "changedColumns" "J" (.long (0 : Int64)) ∧ Fld Z h a "com/example/gridwright/gridwright/engine/SmallDraft" "waitingRows" "J" (.long (0 : Int64)) ∧ Fld Z h a "com/example/gridwright/gridwright/engine/SmallDraft" "waitingColumns" "J" (.long (0 : Int64)) ∧ Fld Z h a "com/example/gridwright/gridwright/engine/SmallDraft" "rows" "Z" (.int (0 : Int32))) := by
  refine Ctr.mk (plainFor_of_name pn_3) fun p e s m below meth c T0 X0 C e0 => go_cast (ef_rmDi m a x1 x2) ?_
  have N0 := Fr.nil n0
  obtain ⟨hx, hZ, hby, hml, hown, hnm, hret, hlk⟩ := C
  obtain ⟨hI, eI⟩ : ∃ z, z = h0 := ⟨_, rfl⟩
  have K0 : Keep hI h0 [a] := by rw [eI]; exact Keep.refl _ _
  show Go _ _ _ _ _ _ _ T0 (mkF m 0 #[.val (.ref a), .val (.int x1), .val (.int x2)] [])
  refine Go.step (fun tt kk => XS.aloadN X0.here hx rfl (hb hby d2_0) rfl rfl kk) ?_
  show Go _ _ _ _ _ _ _ T0 (mkF m 1 #[.val (.ref a), .val (.int x1), .val (.int x2)] [(.ref a)])
  obtain ⟨T1, X1, e1, st1⟩ := initO X0 hx hZ hown (hw _ (List.mem_of_getElem? (i := 12) rfl)) (hw _ (List.mem_of_getElem? (i := 13) rfl)) (hw _ (List.mem_of_getElem? (i := 14) rfl)) e0 (g := (mkF m 1 #[.val (.ref a), .val (.int x1), .val (.int x2)] [(.ref a)])) rfl (by rw [hml]; rfl) rfl (hb hby d2_1) (by decide) (W := 0) (by show 2 * 0 + _ ≤ _; exact Nat.le_of_eq rfl) (by decide)
  refine Go.step (st1) ?_
  show Go _ _ _ _ _ _ _ T1 (mkF m 4 #[.val (.ref a), .val (.int x1), .val (.int x2)] [])
  refine Go.step (fun tt kk => XS.aloadN X1.here hx rfl (hb hby d2_4) rfl rfl kk) ?_
  show Go _ _ _ _ _ _ _ T1 (mkF m 5 #[.val (.ref a), .val (.int x1), .val (.int x2)] [(.ref a)])
  refine Go.step (fun tt kk => XS.iloadN X1.here hx rfl (hb hby d2_5) rfl kk) ?_
  show Go _ _ _ _ _ _ _ T1 (mkF m 6 #[.val (.ref a), .val (.int x1), .val (.int x2)] [(.int x1), (.ref a)])
  obtain ⟨T2, h2, X2, e2, W2, st2⟩ := putF X1 hx hZ hown (host := "") (Or.inl (hw _ (List.mem_of_getElem? (i := 15) rfl))) Via.refl e1 F_0 E_a (Or.inr ⟨(hw _ (List.mem_of_getElem? (i := 16) rfl)), rfl, hnm⟩) (hw _ (List.mem_of_getElem? (i := 2) rfl)) (ty := .int) (by decide) rfl rfl (g := (mkF m 6 #[.val (.ref a), .val (.int x1), .val (.int x2)] [(.int x1), (.ref a)])) rfl rfl (hb hby d2_6)
  have F2 := Fld.same W2 F_0
  have N2 := Fr.snoc X2 N0 g_a
  have Z2 : n0 ≤ h2.size := Nat.le_trans Z0 (Keep.of_wr W2).1
  have K2 : Keep hI h2 [a] := K0.wr W2 (Or.inl (List.mem_of_getElem? (i := 0) rfl))
  refine Go.step (st2) ?_
  show Go _ _ _ _ _ _ _ T2 (mkF m 9 #[.val (.ref a), .val (.int x1), .val (.int x2)] [])
  refine Go.step (fun tt kk => XS.aloadN X2.here hx rfl (hb hby d2_9) rfl rfl kk) ?_
  show Go _ _ _ _ _ _ _ T2 (mkF m 10 #[.val (.ref a), .val (.int x1), .val (.int x2)] [(.ref a)])
  refine Go.step (fun tt kk => XS.iloadN X2.here hx rfl (hb hby d2_10) rfl kk) ?_
  show Go _ _ _ _ _ _ _ T2 (mkF m 11 #[.val (.ref a), .val (.int x1), .val (.int x2)] [(.int x2), (.ref a)])
  have f4 := (Fld.other W2 F_1 (Or.inr (slot_ne (Or.inr (hw _ (List.mem_of_getElem? (i := 18) rfl))) (Or.inr (hw _ (List.mem_of_getElem? (i := 16) rfl))) (by decide) (t := .int) (t' := .int) (by decide) (by decide))))
  have f5 := (Exa.wr W2 E_a)
  obtain ⟨T3, h3, X3, e3, W3, st3⟩ := putF X2 hx hZ hown (host := "") (Or.inl (hw _ (List.mem_of_getElem? (i := 17) rfl))) Via.refl e2 f4 f5 (Or.inr ⟨(hw _ (List.mem_of_getElem? (i := 18) rfl)), rfl, hnm⟩) (hw _ (List.mem_of_getElem? (i := 2) rfl)) (ty := .int) (by decide) rfl rfl (g := (mkF m 11 #[.val (.ref a), .val (.int x1), .val (.int x2)] [(.int x2), (.ref a)])) rfl rfl (hb hby d2_11)
  have F3 := Fld.same W3 f4
  have N3 := Fr.snoc X3 N2 g_a
  have Z3 : n0 ≤ h3.size := Nat.le_trans Z2 (Keep.of_wr W3).1
  have K3 : Keep hI h3 [a] := K2.wr W3 (Or.inl (List.mem_of_getElem? (i := 0) rfl))
  refine Go.step (st3) ?_
  show Go _ _ _ _ _ _ _ T3 (mkF m 14 #[.val (.ref a), .val (.int x1), .val (.int x2)] [])
  have f6 := (Exa.wr W3 f5)
  have f7 := (Fld.other W3 F2 (Or.inr (slot_ne (Or.inr (hw _ (List.mem_of_getElem? (i := 16) rfl))) (Or.inr (hw _ (List.mem_of_getElem? (i := 18) rfl))) (by decide) (t := .int) (t' := .int) (by decide) (by decide))))
  have f8 := (Fld.other W3 (Fld.other W2 F_2 (Or.inr (slot_ne (Or.inl (hw _ (List.mem_of_getElem? (i := 74) rfl))) (Or.inr (hw _ (List.mem_of_getElem? (i := 16) rfl))) (by decide) (t := .long) (t' := .int) (by decide) (by decide)))) (Or.inr (slot_ne (Or.inl (hw _ (List.mem_of_getElem? (i := 74) rfl))) (Or.inr (hw _ (List.mem_of_getElem? (i := 18) rfl))) (by decide) (t := .long) (t' := .int) (by decide) (by decide))))
  have f9 := (Fld.other W3 (Fld.other W2 F_3 (Or.inr (slot_ne (Or.inl (hw _ (List.mem_of_getElem? (i := 76) rfl))) (Or.inr (hw _ (List.mem_of_getElem? (i := 16) rfl))) (by decide) (t := .int) (t' := .int) (by decide) (by decide)))) (Or.inr (slot_ne (Or.inl (hw _ (List.mem_of_getElem? (i := 76) rfl))) (Or.inr (hw _ (List.mem_of_getElem? (i := 18) rfl))) (by decide) (t := .int) (t' := .int) (by decide) (by decide))))
  have f10 := (Fld.other W3 (Fld.other W2 F_4 (Or.inr (slot_ne (Or.inl (hw _ (List.mem_of_getElem? (i := 83) rfl))) (Or.inr (hw _ (List.mem_of_getElem? (i := 16) rfl))) (by decide) (t := (.object "com/example/gridwright/gridwright/engine/Grid")) (t' := .int) (by decide) (by decide)))) (Or.inr (slot_ne (Or.inl (hw _ (List.mem_of_getElem? (i := 83) rfl))) (Or.inr (hw _ (List.mem_of_getElem? (i := 18) rfl))) (by decide) (t := (.object "com/example/gridwright/gridwright/engine/Grid")) (t' := .int) (by decide) (by decide))))
  have f11 := (Fld.other W3 (Fld.other W2 F_5 (Or.inr (slot_ne (Or.inr (hw _ (List.mem_of_getElem? (i := 21) rfl))) (Or.inr (hw _ (List.mem_of_getElem? (i := 16) rfl))) (by decide) (t := (.array .long)) (t' := .int) (by decide) (by decide)))) (Or.inr (slot_ne (Or.inr (hw _ (List.mem_of_getElem? (i := 21) rfl))) (Or.inr (hw _ (List.mem_of_getElem? (i := 18) rfl))) (by decide) (t := (.array .long)) (t' := .int) (by decide) (by decide))))
  have f12 := (Fld.other W3 (Fld.other W2 F_6 (Or.inr (slot_ne (Or.inr (hw _ (List.mem_of_getElem? (i := 23) rfl))) (Or.inr (hw _ (List.mem_of_getElem? (i := 16) rfl))) (by decide) (t := (.array .long)) (t' := .int) (by decide) (by decide)))) (Or.inr (slot_ne (Or.inr (hw _ (List.mem_of_getElem? (i := 23) rfl))) (Or.inr (hw _ (List.mem_of_getElem? (i := 18) rfl))) (by decide) (t := (.array .long)) (t' := .int) (by decide) (by decide))))
  have f13 := (Fld.other W3 (Fld.other W2 F_7 (Or.inr (slot_ne (Or.inl (hw _ (List.mem_of_getElem? (i := 85) rfl))) (Or.inr (hw _ (List.mem_of_getElem? (i := 16) rfl))) (by decide) (t := .long) (t' := .int) (by decide) (by decide)))) (Or.inr (slot_ne (Or.inl (hw _ (List.mem_of_getElem? (i := 85) rfl))) (Or.inr (hw _ (List.mem_of_getElem? (i := 18) rfl))) (by decide) (t := .long) (t' := .int) (by decide) (by decide))))
  have f14 := (Fld.other W3 (Fld.other W2 F_8 (Or.inr (slot_ne (Or.inl (hw _ (List.mem_of_getElem? (i := 87) rfl))) (Or.inr (hw _ (List.mem_of_getElem? (i := 16) rfl))) (by decide) (t := .long) (t' := .int) (by decide) (by decide)))) (Or.inr (slot_ne (Or.inl (hw _ (List.mem_of_getElem? (i := 87) rfl))) (Or.inr (hw _ (List.mem_of_getElem? (i := 18) rfl))) (by decide) (t := .long) (t' := .int) (by decide) (by decide))))
  have f15 := (Fld.other W3 (Fld.other W2 F_9 (Or.inr (slot_ne (Or.inl (hw _ (List.mem_of_getElem? (i := 89) rfl))) (Or.inr (hw _ (List.mem_of_getElem? (i := 16) rfl))) (by decide) (t := .long) (t' := .int) (by decide) (by decide)))) (Or.inr (slot_ne (Or.inl (hw _ (List.mem_of_getElem? (i := 89) rfl))) (Or.inr (hw _ (List.mem_of_getElem? (i := 18) rfl))) (by decide) (t := .long) (t' := .int) (by decide) (by decide))))
  have f16 := (Fld.other W3 (Fld.other W2 F_10 (Or.inr (slot_ne (Or.inl (hw _ (List.mem_of_getElem? (i := 91) rfl))) (Or.inr (hw _ (List.mem_of_getElem? (i := 16) rfl))) (by decide) (t := .long) (t' := .int) (by decide) (by decide)))) (Or.inr (slot_ne (Or.inl (hw _ (List.mem_of_getElem? (i := 91) rfl))) (Or.inr (hw _ (List.mem_of_getElem? (i := 18) rfl))) (by decide) (t := .long) (t' := .int) (by decide) (by decide))))
  have f17 := (Fld.other W3 (Fld.other W2 F_11 (Or.inr (slot_ne (Or.inl (hw _ (List.mem_of_getElem? (i := 93) rfl))) (Or.inr (hw _ (List.mem_of_getElem? (i := 16) rfl))) (by decide) (t := .boolean) (t' := .int) (by decide) (by decide)))) (Or.inr (slot_ne (Or.inl (hw _ (List.mem_of_getElem? (i := 93) rfl))) (Or.inr (hw _ (List.mem_of_getElem? (i := 18) rfl))) (by decide) (t := .boolean) (t' := .int) (by decide) (by decide))))
  refine go_ret X3 hx hret hlk (hb hby d2_14) ?_ (by decide) (by decide)
  try rw [e3]
  exact ⟨rfl, N3, eI ▸ K3, f6, f7, F3, f8, f9, f10, f11, f12, f13, f14, f15, f16, f17⟩
theorem ef_rmSi (m : MethodId) (x0 : Addr) (x1 : Int32) (x2 : Int32) : entryFrame m #[(.ref x0), (.int x1), (.int x2)] 3 = mkF m 0 #[.val (.ref x0), .val (.int x1), .val (.int x2)] [] := by first | (simp [entryFrame, mkF, argsToLocals, Value.category]; done) | rfl
theorem pn_4 : plainName "com/example/gridwright/gridwright/engine/SmallDraft" = true := by first | (simp [plainName, overriddenIn]; done) | decide +kernel
theorem d1_0 : decode prog_84_method_1_code 0 = .ok (.aload_n 0, 1) := by decide +kernel
theorem d1_1 : decode prog_84_method_1_code 1 = .ok (.iload_n 1, 1) := by decide +kernel
theorem d1_2 : decode prog_84_method_1_code 2 = .ok (.iload_n 2, 1) := by decide +kernel
theorem pd_2 : parseMethodDescriptor "(II)V" = some ⟨[.int, .int], none⟩ := by decide +kernel
theorem d1_3 : decode prog_84_method_1_code 3 = .ok (.invokespecial 1, 3) := by decide +kernel
theorem d1_6 : decode prog_84_method_1_code 6 = .ok (.iload_n 1, 1) := by decide +kernel
theorem d1_7 : decode prog_84_method_1_code 7 = .ok (.bipush 64, 2) := by decide +kernel
theorem d1_9 : decode prog_84_method_1_code 9 = .ok (.if_icmp .gt 9, 3) := by decide +kernel
theorem d1_12 : decode prog_84_method_1_code 12 = .ok (.iload_n 2, 1) := by decide +kernel
theorem d1_13 : decode prog_84_method_1_code 13 = .ok (.bipush 64, 2) := by decide +kernel
theorem d1_15 : decode prog_84_method_1_code 15 = .ok (.if_icmp .le 18, 3) := by decide +kernel
theorem d1_33 : decode prog_84_method_1_code 33 = .ok (.aload_n 0, 1) := by decide +kernel
theorem d1_34 : decode prog_84_method_1_code 34 = .ok (.iload_n 1, 1) := by decide +kernel
theorem d1_35 : decode prog_84_method_1_code 35 = .ok (.iload_n 2, 1) := by decide +kernel
theorem d1_36 : decode prog_84_method_1_code 36 = .ok (.iadd, 1) := by decide +kernel
theorem d1_37 : decode prog_84_method_1_code 37 = .ok (.newarray .long, 2) := by decide +kernel
theorem d1_39 : decode prog_84_method_1_code 39 = .ok (.putfield 18, 3) := by decide +kernel
theorem d1_42 : decode prog_84_method_1_code 42 = .ok (.aload_n 0, 1) := by decide +kernel
theorem d1_43 : decode prog_84_method_1_code 43 = .ok (.iload_n 1, 1) := by decide +kernel
theorem d1_44 : decode prog_84_method_1_code 44 = .ok (.iload_n 2, 1) := by decide +kernel
theorem d1_45 : decode prog_84_method_1_code 45 = .ok (.iadd, 1) := by decide +kernel
theorem d1_46 : decode prog_84_method_1_code 46 = .ok (.newarray .long, 2) := by decide +kernel
theorem d1_48 : decode prog_84_method_1_code 48 = .ok (.putfield 22, 3) := by decide +kernel
theorem d1_51 : decode prog_84_method_1_code 51 = .ok (.return_, 1) := by decide +kernel
set_option maxRecDepth 65536 in
set_option maxHeartbeats 40000000 in
theorem rmSi (l : Launch) (Z : State) (a0 : Array Value) (hw : ∀ d ∈ tables_1, d.before a0 Z = true) (ws : List Jvm.Cond) (a : Addr) (W H : Nat) (h0 : Heap) (n0 : Nat) (Z0 : n0 ≤ h0.size) (E_a : Exa Z h0 a "com/example/gridwright/gridwright/engine/SmallDraft") (F_0 : Fld Z h0 a "com/example/gridwright/gridwright/engine/Draft" "width" "I" (.int (0 : Int32))) (F_1 : Fld Z h0 a "com/example/gridwright/gridwright/engine/Draft" "height" "I" (.int (0 : Int32))) (F_2 : Fld Z h0 a "com/example/gridwright/gridwright/engine/Draft" "taken" "J" (.long (0 : Int64))) (F_3 : Fld Z h0 a "com/example/gridwright/gridwright/engine/Draft" "decided" "I" (.int (0 : Int32))) (F_4 : Fld Z h0 a "com/example/gridwright/gridwright/engine/SmallDraft" "grid" "Lcom/example/gridwright/gridwright/engine/Grid;" .null) (F_5 : Fld Z h0 a "com/example/gridwright/gridwright/engine/SmallDraft" "filled" "[J" .null) (F_6 : Fld Z h0 a "com/example/gridwright/gridwright/engine/SmallDraft" "empty" "[J" .null) (F_7 : Fld Z h0 a "com/example/gridwright/gridwright/engine/SmallDraft" "changedRows" "J" (.long (0 : Int64))) (F_8 : Fld Z h0 a "com/example/gridwright/gridwright/engine/SmallDraft" "changedColumns" "J" (.long (0 : Int64))) (F_9 : Fld Z h0 a "com/example/gridwright/gridwright/engine/SmallDraft" "waitingRows" "J" (.long (0 : Int64))) (F_10 : Fld Z h0 a "com/example/gridwright/gridwright/engine/SmallDraft" "waitingColumns" "J" (.long (0 : Int64))) (F_11 : Fld Z h0 a "com/example/gridwright/gridwright/engine/SmallDraft" "rows" "Z" (.int (0 : Int32))) (g_a : n0 ≤ a) (hW1 : 1 ≤ W) (hW : W ≤ 64) (hH1 : 1 ≤ H) (hH : H ≤ 64) :
    Ctr l Z (⟨"com/example/gridwright/gridwright/engine/SmallDraft", "<init>", "(II)V"⟩ : MethodName) prog_84_method_1_code 3 none ws ({ frames := 2, cells := 2, slots := 256, locals := 26 } : Room) 2 256 #[(.ref a), (.int (Int32.ofNat W)), (.int (Int32.ofNat H))] h0 (fun v h L => ∃ fv ev : Value, v = none ∧ Fr n0 L ∧ Keep h0 h [a] ∧ Exa Z h a "com/example/gridwright/gridwright/engine/SmallDraft" ∧ Fld Z h a "com/example/gridwright/gridwright/engine/Draft" "width" "I" (.int (Int32.ofNat W)) ∧ Fld Z h a "com/example/gridwright/gridwright/engine/Draft" "height" "I" (.int (Int32.ofNat H)) ∧ Fld Z h a "com/example/gridwright/gridwright/engine/Draft" "taken" "J" (.long (0 : Int64)) ∧ Fld Z h a "com/example/gridwright/gridwright/engine/Draft" "decided" "I" (.int (0 : Int32)) ∧ Fld Z h a "com/example/gridwright/gridwright/engine/SmallDraft" "grid" "Lcom/example/gridwright/gridwright/engine/Grid;" .null ∧ Fld Z h a "com/example/gridwright/gridwright/engine/SmallDraft" "filled" "[J" fv ∧ Fld Z h a "com/example/gridwright/gridwright/engine/SmallDraft" "empty" "[J" ev ∧ Fld Z h a "com/example/gridwright/gridwright/engine/SmallDraft" "changedRows" "J" (.long (0 : Int64)) ∧ Fld Z h a "com/example/gridwright/gridwright/engine/SmallDraft" "changedColumns" "J" (.long (0 : Int64)) ∧ Fld Z h a "com/example/gridwright/gridwright/engine/SmallDraft" "waitingRows" "J" (.long (0 : Int64)) ∧ Fld Z h a "com/example/gridwright/gridwright/engine/SmallDraft" "waitingColumns" "J" (.long (0 : Int64)) ∧ Fld Z h a "com/example/gridwright/gridwright/engine/SmallDraft" "rows" "Z" (.int (0 : Int32))) := by
  refine Ctr.mk (plainFor_of_name pn_4) fun p e s m below meth c T0 X0 C e0 => go_cast (ef_rmSi m a (Int32.ofNat W) (Int32.ofNat H)) ?_
  have N0 := Fr.nil n0
  obtain ⟨hx, hZ, hby, hml, hown, hnm, hret, hlk⟩ := C
  obtain ⟨hI, eI⟩ : ∃ z, z = h0 := ⟨_, rfl⟩
  have K0 : Keep hI h0 [a] := by rw [eI]; exact Keep.refl _ _
  show Go _ _ _ _ _ _ _ T0 (mkF m 0 #[.val (.ref a), .val (.int (Int32.ofNat W)), .val (.int (Int32.ofNat H))] [])
  refine Go.step (fun tt kk => XS.aloadN X0.here hx rfl (hb hby d1_0) rfl rfl kk) ?_
  show Go _ _ _ _ _ _ _ T0 (mkF m 1 #[.val (.ref a), .val (.int (Int32.ofNat W)), .val (.int (Int32.ofNat H))] [(.ref a)])
  refine Go.step (fun tt kk => XS.iloadN X0.here hx rfl (hb hby d1_1) rfl kk) ?_
  show Go _ _ _ _ _ _ _ T0 (mkF m 2 #[.val (.ref a), .val (.int (Int32.ofNat W)), .val (.int (Int32.ofNat H))] [(.int (Int32.ofNat W)), (.ref a)])
  refine Go.step (fun tt kk => XS.iloadN X0.here hx rfl (hb hby d1_2) rfl kk) ?_
  show Go _ _ _ _ _ _ _ T0 (mkF m 3 #[.val (.ref a), .val (.int (Int32.ofNat W)), .val (.int (Int32.ofNat H))] [(.int (Int32.ofNat H)), (.int (Int32.ofNat W)), (.ref a)])
  obtain ⟨v1, T1, L1, X1, q1, st1⟩ := c_init X0 hx hZ hown (y := (⟨"com/example/gridwright/gridwright/engine/Draft", "<init>", "(II)V"⟩ : MethodName)) (hw _ (List.mem_of_getElem? (i := 7) rfl)) (hw _ (List.mem_of_getElem? (i := 8) rfl)) (hw _ (List.mem_of_getElem? (i := 10) rfl)) (hw _ (List.mem_of_getElem? (i := 11) rfl)) rfl (by decide) (a := a) (argsL := [(.int (Int32.ofNat W)), (.int (Int32.ofNat H))]) (rest := []) (rmDi l Z a0 hw [] a (Int32.ofNat W) (Int32.ofNat H) h0 n0 Z0 E_a F_0 F_1 F_2 F_3 F_4 F_5 F_6 F_7 F_8 F_9 F_10 F_11 g_a ) e0 pd_2 rfl (by rw [hml]; rfl) (W := 0) (by show 2 * 0 + _ ≤ _; exact Nat.le_of_eq rfl) (by decide) (by decide) (by decide) (by decide) (hb hby d1_3) (Ls := #[.val (.ref a), .val (.int (Int32.ofNat W)), .val (.int (Int32.ofNat H))])
  generalize e1 : T1.heap = h1 at q1
  obtain ⟨rfl, N1q, K1q, E1q, F1q0, F1q1, F1q2, F1q3, F1q4, F1q5, F1q6, F1q7, F1q8, F1q9, F1q10, F1q11⟩ := q1
  have N1 := Fr.app N0 N1q
  have Z1 : n0 ≤ h1.size := Nat.le_trans Z0 K1q.1
  have K1 : Keep hI h1 [a] := K0.trans K1q (allS (Or.inl (List.mem_of_getElem? (i := 0) rfl)) all0)
  refine Go.step (st1) ?_
  show Go _ _ _ _ _ _ _ T1 (mkF m 6 #[.val (.ref a), .val (.int (Int32.ofNat W)), .val (.int (Int32.ofNat H))] [])
  refine Go.step (fun tt kk => XS.iloadN X1.here hx rfl (hb hby d1_6) rfl kk) ?_
  show Go _ _ _ _ _ _ _ T1 (mkF m 7 #[.val (.ref a), .val (.int (Int32.ofNat W)), .val (.int (Int32.ofNat H))] [(.int (Int32.ofNat W))])
  refine Go.step (fun tt kk => XS.bipush X1.here hx rfl (hb hby d1_7) kk) ?_
  show Go _ _ _ _ _ _ _ T1 (mkF m 9 #[.val (.ref a), .val (.int (Int32.ofNat W)), .val (.int (Int32.ofNat H))] [(.int (64 : Int32)), (.int (Int32.ofNat W))])
  refine Go.step (fun tt kk => XS.icmpNo X1.here hx rfl (hb hby d1_9) rfl (flt (mt (own_lt 64 W (by omega) (by omega)).mp (by omega))).2.2.1 kk) ?_
  show Go _ _ _ _ _ _ _ T1 (mkF m 12 #[.val (.ref a), .val (.int (Int32.ofNat W)), .val (.int (Int32.ofNat H))] [])
  refine Go.step (fun tt kk => XS.iloadN X1.here hx rfl (hb hby d1_12) rfl kk) ?_
  show Go _ _ _ _ _ _ _ T1 (mkF m 13 #[.val (.ref a), .val (.int (Int32.ofNat W)), .val (.int (Int32.ofNat H))] [(.int (Int32.ofNat H))])
  refine Go.step (fun tt kk => XS.bipush X1.here hx rfl (hb hby d1_13) kk) ?_
  show Go _ _ _ _ _ _ _ T1 (mkF m 15 #[.val (.ref a), .val (.int (Int32.ofNat W)), .val (.int (Int32.ofNat H))] [(.int (64 : Int32)), (.int (Int32.ofNat H))])
  refine Go.step (fun tt kk => XS.icmpYes X1.here hx rfl (pc0 := 15) (pc' := 33) rfl (hb hby d1_15) rfl (flt (mt (own_lt 64 H (by omega) (by omega)).mp (by omega))).2.2.2 (by decide) (by decide) kk) ?_
  show Go _ _ _ _ _ _ _ T1 (mkF m 33 #[.val (.ref a), .val (.int (Int32.ofNat W)), .val (.int (Int32.ofNat H))] [])
  refine Go.step (fun tt kk => XS.aloadN X1.here hx rfl (hb hby d1_33) rfl rfl kk) ?_
  show Go _ _ _ _ _ _ _ T1 (mkF m 34 #[.val (.ref a), .val (.int (Int32.ofNat W)), .val (.int (Int32.ofNat H))] [(.ref a)])
  refine Go.step (fun tt kk => XS.iloadN X1.here hx rfl (hb hby d1_34) rfl kk) ?_
  show Go _ _ _ _ _ _ _ T1 (mkF m 35 #[.val (.ref a), .val (.int (Int32.ofNat W)), .val (.int (Int32.ofNat H))] [(.int (Int32.ofNat W)), (.ref a)])
  refine Go.step (fun tt kk => XS.iloadN X1.here hx rfl (hb hby d1_35) rfl kk) ?_
  show Go _ _ _ _ _ _ _ T1 (mkF m 36 #[.val (.ref a), .val (.int (Int32.ofNat W)), .val (.int (Int32.ofNat H))] [(.int (Int32.ofNat H)), (.int (Int32.ofNat W)), (.ref a)])
  refine Go.step (fun tt kk => XS.iadd X1.here hx rfl (hb hby d1_36) rfl kk) ?_
  show Go _ _ _ _ _ _ _ T1 (mkF m 37 #[.val (.ref a), .val (.int (Int32.ofNat W)), .val (.int (Int32.ofNat H))] [(.int ((Int32.ofNat W) + (Int32.ofNat H))), (.ref a)])
  rw [← Int32.ofNat_add]
  show Go _ _ _ _ _ _ _ T1 (mkF m 37 #[.val (.ref a), .val (.int (Int32.ofNat W)), .val (.int (Int32.ofNat H))] [(.int (Int32.ofNat (W + H))), (.ref a)])
  obtain ⟨T2, h2, k2, X2, e2, E2, A2, EA2, st2⟩ := newPE X1 hx hZ (hw _ (List.mem_of_getElem? (i := 19) rfl)) e1 (g := (mkF m 37 #[.val (.ref a), .val (.int (Int32.ofNat W)), .val (.int (Int32.ofNat H))] [(.int (Int32.ofNat (W + H))), (.ref a)])) rfl (hb hby d1_37) rfl (own_nn (W + H) (by omega)) (cap := 128) (by rw [clamp_of (k := W + H) (Int32.toInt_ofNat_of_lt (by omega))]; omega) (by decide) (by decide) (by decide) (ad := "[J") rfl
  obtain ⟨b2, g2⟩ : ∃ z, z = h1.size := ⟨_, rfl⟩
  rw [← g2] at A2 EA2 st2
  have ne_a_b2 : a ≠ b2 := Nat.ne_of_lt (Nat.lt_of_lt_of_le E1q.lt (Nat.le_of_eq g2.symm))
  have gn_b2 : n0 ≤ b2 := Nat.le_trans Z1 (Nat.le_of_eq g2.symm)
  have sz_b2 : hI.size ≤ b2 := Nat.le_trans K1.1 (Nat.le_of_eq g2.symm)
  have Z2 : n0 ≤ h2.size := Nat.le_trans Z1 E2.1
  have K2 : Keep hI h2 [a] := K1.ext E2
  have V2 : AV Z h2 b2 .long (W + H) (fun _ => (.long (0 : Int64))) := AV.new A2 (Int32.toInt_ofNat_of_lt (by omega))
  refine Go.step (st2) ?_
  show Go _ _ _ _ _ _ _ T2 (mkF m 39 #[.val (.ref a), .val (.int (Int32.ofNat W)), .val (.int (Int32.ofNat H))] [(.ref b2), (.ref a)])
  have f4 := (Fld.ext E2 F1q5)
  have f5 := (Exa.ext E2 E1q)
  obtain ⟨T3, h3, X3, e3, W3, st3⟩ := putF X2 hx hZ hown (host := "") (Or.inl (hw _ (List.mem_of_getElem? (i := 20) rfl))) Via.refl e2 f4 f5 (Or.inr ⟨(hw _ (List.mem_of_getElem? (i := 21) rfl)), rfl, hnm⟩) (hw _ (List.mem_of_getElem? (i := 2) rfl)) (ty := (.array .long)) (by decide) rfl rfl (g := (mkF m 39 #[.val (.ref a), .val (.int (Int32.ofNat W)), .val (.int (Int32.ofNat H))] [(.ref b2), (.ref a)])) rfl rfl (hb hby d1_39)
  have F3 := Fld.same W3 f4
  have N3 := Fr.snoc X3 N1 g_a
  have Z3 : n0 ≤ h3.size := Nat.le_trans Z2 (Keep.of_wr W3).1
  have K3 : Keep hI h3 [a] := K2.wr W3 (Or.inl (List.mem_of_getElem? (i := 0) rfl))
  refine Go.step (st3) ?_
  show Go _ _ _ _ _ _ _ T3 (mkF m 42 #[.val (.ref a), .val (.int (Int32.ofNat W)), .val (.int (Int32.ofNat H))] [])
  refine Go.step (fun tt kk => XS.aloadN X3.here hx rfl (hb hby d1_42) rfl rfl kk) ?_
  show Go _ _ _ _ _ _ _ T3 (mkF m 43 #[.val (.ref a), .val (.int (Int32.ofNat W)), .val (.int (Int32.ofNat H))] [(.ref a)])
  refine Go.step (fun tt kk => XS.iloadN X3.here hx rfl (hb hby d1_43) rfl kk) ?_
  show Go _ _ _ _ _ _ _ T3 (mkF m 44 #[.val (.ref a), .val (.int (Int32.ofNat W)), .val (.int (Int32.ofNat H))] [(.int (Int32.ofNat W)), (.ref a)])
  refine Go.step (fun tt kk => XS.iloadN X3.here hx rfl (hb hby d1_44) rfl kk) ?_
  show Go _ _ _ _ _ _ _ T3 (mkF m 45 #[.val (.ref a), .val (.int (Int32.ofNat W)), .val (.int (Int32.ofNat H))] [(.int (Int32.ofNat H)), (.int (Int32.ofNat W)), (.ref a)])
  refine Go.step (fun tt kk => XS.iadd X3.here hx rfl (hb hby d1_45) rfl kk) ?_
  show Go _ _ _ _ _ _ _ T3 (mkF m 46 #[.val (.ref a), .val (.int (Int32.ofNat W)), .val (.int (Int32.ofNat H))] [(.int ((Int32.ofNat W) + (Int32.ofNat H))), (.ref a)])
  rw [← Int32.ofNat_add]
  show Go _ _ _ _ _ _ _ T3 (mkF m 46 #[.val (.ref a), .val (.int (Int32.ofNat W)), .val (.int (Int32.ofNat H))] [(.int (Int32.ofNat (W + H))), (.ref a)])
  obtain ⟨T6, h6, k6, X6, e6, E6, A6, EA6, st6⟩ := newPE X3 hx hZ (hw _ (List.mem_of_getElem? (i := 19) rfl)) e3 (g := (mkF m 46 #[.val (.ref a), .val (.int (Int32.ofNat W)), .val (.int (Int32.ofNat H))] [(.int (Int32.ofNat (W + H))), (.ref a)])) rfl (hb hby d1_46) rfl (own_nn (W + H) (by omega)) (cap := 128) (by rw [clamp_of (k := W + H) (Int32.toInt_ofNat_of_lt (by omega))]; omega) (by decide) (by decide) (by decide) (ad := "[J") rfl
  obtain ⟨b6, g6⟩ : ∃ z, z = h3.size := ⟨_, rfl⟩
  rw [← g6] at A6 EA6 st6
  have f7 := (Exa.wr W3 f5)
  have ne_a_b6 : a ≠ b6 := Nat.ne_of_lt (Nat.lt_of_lt_of_le f7.lt (Nat.le_of_eq g6.symm))
  have f8 := (Exa.wr W3 EA2)
  have ne_b2_b6 : b2 ≠ b6 := Nat.ne_of_lt (Nat.lt_of_lt_of_le f8.lt (Nat.le_of_eq g6.symm))
  have gn_b6 : n0 ≤ b6 := Nat.le_trans Z3 (Nat.le_of_eq g6.symm)
  have sz_b6 : hI.size ≤ b6 := Nat.le_trans K3.1 (Nat.le_of_eq g6.symm)
  have Z6 : n0 ≤ h6.size := Nat.le_trans Z3 E6.1
  have K6 : Keep hI h6 [a] := K3.ext E6
  have V6 : AV Z h6 b6 .long (W + H) (fun _ => (.long (0 : Int64))) := AV.new A6 (Int32.toInt_ofNat_of_lt (by omega))
  refine Go.step (st6) ?_
  show Go _ _ _ _ _ _ _ T6 (mkF m 48 #[.val (.ref a), .val (.int (Int32.ofNat W)), .val (.int (Int32.ofNat H))] [(.ref b6), (.ref a)])
  have f10 := (Fld.ext E6 (Fld.other W3 (Fld.ext E2 F1q6) (Or.inr (slot_ne (Or.inr (hw _ (List.mem_of_getElem? (i := 23) rfl))) (Or.inr (hw _ (List.mem_of_getElem? (i := 21) rfl))) (by decide) (t := (.array .long)) (t' := (.array .long)) (by decide) (by decide)))))
  have f11 := (Exa.ext E6 f7)
  obtain ⟨T9, h9, X9, e9, W9, st9⟩ := putF X6 hx hZ hown (host := "") (Or.inl (hw _ (List.mem_of_getElem? (i := 22) rfl))) Via.refl e6 f10 f11 (Or.inr ⟨(hw _ (List.mem_of_getElem? (i := 23) rfl)), rfl, hnm⟩) (hw _ (List.mem_of_getElem? (i := 2) rfl)) (ty := (.array .long)) (by decide) rfl rfl (g := (mkF m 48 #[.val (.ref a), .val (.int (Int32.ofNat W)), .val (.int (Int32.ofNat H))] [(.ref b6), (.ref a)])) rfl rfl (hb hby d1_48)
  have F9 := Fld.same W9 f10
  have N9 := Fr.snoc X9 N3 g_a
  have Z9 : n0 ≤ h9.size := Nat.le_trans Z6 (Keep.of_wr W9).1
  have K9 : Keep hI h9 [a] := K6.wr W9 (Or.inl (List.mem_of_getElem? (i := 0) rfl))
  refine Go.step (st9) ?_
  show Go _ _ _ _ _ _ _ T9 (mkF m 51 #[.val (.ref a), .val (.int (Int32.ofNat W)), .val (.int (Int32.ofNat H))] [])
  have f12 := (Exa.wr W9 f11)
  have f13 := (Fld.other W9 (Fld.ext E6 (Fld.other W3 (Fld.ext E2 F1q0) (Or.inr (slot_ne (Or.inr (hw _ (List.mem_of_getElem? (i := 16) rfl))) (Or.inr (hw _ (List.mem_of_getElem? (i := 21) rfl))) (by decide) (t := .int) (t' := (.array .long)) (by decide) (by decide))))) (Or.inr (slot_ne (Or.inr (hw _ (List.mem_of_getElem? (i := 16) rfl))) (Or.inr (hw _ (List.mem_of_getElem? (i := 23) rfl))) (by decide) (t := .int) (t' := (.array .long)) (by decide) (by decide))))
  have f14 := (Fld.other W9 (Fld.ext E6 (Fld.other W3 (Fld.ext E2 F1q1) (Or.inr (slot_ne (Or.inr (hw _ (List.mem_of_getElem? (i := 18) rfl))) (Or.inr (hw _ (List.mem_of_getElem? (i := 21) rfl))) (by decide) (t := .int) (t' := (.array .long)) (by decide) (by decide))))) (Or.inr (slot_ne (Or.inr (hw _ (List.mem_of_getElem? (i := 18) rfl))) (Or.inr (hw _ (List.mem_of_getElem? (i := 23) rfl))) (by decide) (t := .int) (t' := (.array .long)) (by decide) (by decide))))
  have f15 := (Fld.other W9 (Fld.ext E6 (Fld.other W3 (Fld.ext E2 F1q2) (Or.inr (slot_ne (Or.inl (hw _ (List.mem_of_getElem? (i := 74) rfl))) (Or.inr (hw _ (List.mem_of_getElem? (i := 21) rfl))) (by decide) (t := .long) (t' := (.array .long)) (by decide) (by decide))))) (Or.inr (slot_ne (Or.inl (hw _ (List.mem_of_getElem? (i := 74) rfl))) (Or.inr (hw _ (List.mem_of_getElem? (i := 23) rfl))) (by decide) (t := .long) (t' := (.array .long)) (by decide) (by decide))))
  have f16 := (Fld.other W9 (Fld.ext E6 (Fld.other W3 (Fld.ext E2 F1q3) (Or.inr (slot_ne (Or.inl (hw _ (List.mem_of_getElem? (i := 76) rfl))) (Or.inr (hw _ (List.mem_of_getElem? (i := 21) rfl))) (by decide) (t := .int) (t' := (.array .long)) (by decide) (by decide))))) (Or.inr (slot_ne (Or.inl (hw _ (List.mem_of_getElem? (i := 76) rfl))) (Or.inr (hw _ (List.mem_of_getElem? (i := 23) rfl))) (by decide) (t := .int) (t' := (.array .long)) (by decide) (by decide))))
  have f17 := (Fld.other W9 (Fld.ext E6 (Fld.other W3 (Fld.ext E2 F1q4) (Or.inr (slot_ne (Or.inl (hw _ (List.mem_of_getElem? (i := 83) rfl))) (Or.inr (hw _ (List.mem_of_getElem? (i := 21) rfl))) (by decide) (t := (.object "com/example/gridwright/gridwright/engine/Grid")) (t' := (.array .long)) (by decide) (by decide))))) (Or.inr (slot_ne (Or.inl (hw _ (List.mem_of_getElem? (i := 83) rfl))) (Or.inr (hw _ (List.mem_of_getElem? (i := 23) rfl))) (by decide) (t := (.object "com/example/gridwright/gridwright/engine/Grid")) (t' := (.array .long)) (by decide) (by decide))))
  have f18 := (Fld.other W9 (Fld.ext E6 F3) (Or.inr (slot_ne (Or.inr (hw _ (List.mem_of_getElem? (i := 21) rfl))) (Or.inr (hw _ (List.mem_of_getElem? (i := 23) rfl))) (by decide) (t := (.array .long)) (t' := (.array .long)) (by decide) (by decide))))
  have f19 := (Fld.other W9 (Fld.ext E6 (Fld.other W3 (Fld.ext E2 F1q7) (Or.inr (slot_ne (Or.inl (hw _ (List.mem_of_getElem? (i := 85) rfl))) (Or.inr (hw _ (List.mem_of_getElem? (i := 21) rfl))) (by decide) (t := .long) (t' := (.array .long)) (by decide) (by decide))))) (Or.inr (slot_ne (Or.inl (hw _ (List.mem_of_getElem? (i := 85) rfl))) (Or.inr (hw _ (List.mem_of_getElem? (i := 23) rfl))) (by decide) (t := .long) (t' := (.array .long)) (by decide) (by decide))))
  have f20 := (Fld.other W9 (Fld.ext E6 (Fld.other W3 (Fld.ext E2 F1q8) (Or.inr (slot_ne (Or.inl (hw _ (List.mem_of_getElem? (i := 87) rfl))) (Or.inr (hw _ (List.mem_of_getElem? (i := 21) rfl))) (by decide) (t := .long) (t' := (.array .long)) (by decide) (by decide))))) (Or.inr (slot_ne (Or.inl (hw _ (List.mem_of_getElem? (i := 87) rfl))) (Or.inr (hw _ (List.mem_of_getElem? (i := 23) rfl))) (by decide) (t := .long) (t' := (.array .long)) (by decide) (by decide))))
  have f21 := (Fld.other W9 (Fld.ext E6 (Fld.other W3 (Fld.ext E2 F1q9) (Or.inr (slot_ne (Or.inl (hw _ (List.mem_of_getElem? (i := 89) rfl))) (Or.inr (hw _ (List.mem_of_getElem? (i := 21) rfl))) (by decide) (t := .long) (t' := (.array .long)) (by decide) (by decide))))) (Or.inr (slot_ne (Or.inl (hw _ (List.mem_of_getElem? (i := 89) rfl))) (Or.inr (hw _ (List.mem_of_getElem? (i := 23) rfl))) (by decide) (t := .long) (t' := (.array .long)) (by decide) (by decide))))
  have f22 := (Fld.other W9 (Fld.ext E6 (Fld.other W3 (Fld.ext E2 F1q10) (Or.inr (slot_ne (Or.inl (hw _ (List.mem_of_getElem? (i := 91) rfl))) (Or.inr (hw _ (List.mem_of_getElem? (i := 21) rfl))) (by decide) (t := .long) (t' := (.array .long)) (by decide) (by decide))))) (Or.inr (slot_ne (Or.inl (hw _ (List.mem_of_getElem? (i := 91) rfl))) (Or.inr (hw _ (List.mem_of_getElem? (i := 23) rfl))) (by decide) (t := .long) (t' := (.array .long)) (by decide) (by decide))))
  have f23 := (Fld.other W9 (Fld.ext E6 (Fld.other W3 (Fld.ext E2 F1q11) (Or.inr (slot_ne (Or.inl (hw _ (List.mem_of_getElem? (i := 93) rfl))) (Or.inr (hw _ (List.mem_of_getElem? (i := 21) rfl))) (by decide) (t := .boolean) (t' := (.array .long)) (by decide) (by decide))))) (Or.inr (slot_ne (Or.inl (hw _ (List.mem_of_getElem? (i := 93) rfl))) (Or.inr (hw _ (List.mem_of_getElem? (i := 23) rfl))) (by decide) (t := .boolean) (t' := (.array .long)) (by decide) (by decide))))
  refine go_ret X9 hx hret hlk (hb hby d1_51) ?_ (by decide) (by decide)
  try rw [e9]
  exact ⟨_, _, rfl, N9, eI ▸ K9, f12, f13, f14, f15, f16, f17, f18, F9, f19, f20, f21, f22, f23⟩
theorem ef_rmSo (m : MethodId) (x0 : Addr) (x1 : Addr) : entryFrame m #[(.ref x0), (.ref x1)] 4 = mkF m 0 #[.val (.ref x0), .val (.ref x1), .unset, .unset] [] := by first | (simp [entryFrame, mkF, argsToLocals, Value.category]; done) | rfl
theorem d11_0 : decode prog_84_method_2_code 0 = .ok (.aload_n 0, 1) := by decide +kernel
theorem d11_1 : decode prog_84_method_2_code 1 = .ok (.aload_n 1, 1) := by decide +kernel
theorem d11_2 : decode prog_84_method_2_code 2 = .ok (.putfield 25, 3) := by decide +kernel
theorem d11_5 : decode prog_84_method_2_code 5 = .ok (.aload_n 0, 1) := by decide +kernel
theorem d11_6 : decode prog_84_method_2_code 6 = .ok (.getfield 29, 3) := by decide +kernel
theorem d11_9 : decode prog_84_method_2_code 9 = .ok (.lstore_n 2, 1) := by decide +kernel
theorem d11_10 : decode prog_84_method_2_code 10 = .ok (.lload_n 2, 1) := by decide +kernel
theorem d11_11 : decode prog_84_method_2_code 11 = .ok (.lconst 0, 1) := by decide +kernel
theorem d11_12 : decode prog_84_method_2_code 12 = .ok (.lcmp, 1) := by decide +kernel
theorem d11_13 : decode prog_84_method_2_code 13 = .ok (.ifCond .eq 20, 3) := by decide +kernel
theorem d11_33 : decode prog_84_method_2_code 33 = .ok (.aload_n 0, 1) := by decide +kernel
theorem d11_34 : decode prog_84_method_2_code 34 = .ok (.getfield 43, 3) := by decide +kernel
theorem d11_37 : decode prog_84_method_2_code 37 = .ok (.lstore_n 2, 1) := by decide +kernel
theorem d11_38 : decode prog_84_method_2_code 38 = .ok (.lload_n 2, 1) := by decide +kernel
theorem d11_39 : decode prog_84_method_2_code 39 = .ok (.lconst 0, 1) := by decide +kernel
theorem d11_40 : decode prog_84_method_2_code 40 = .ok (.lcmp, 1) := by decide +kernel
theorem d11_41 : decode prog_84_method_2_code 41 = .ok (.ifCond .eq 25, 3) := by decide +kernel
theorem d11_66 : decode prog_84_method_2_code 66 = .ok (.aload_n 0, 1) := by decide +kernel
theorem d11_67 : decode prog_84_method_2_code 67 = .ok (.lconst 0, 1) := by decide +kernel
theorem d11_68 : decode prog_84_method_2_code 68 = .ok (.putfield 29, 3) := by decide +kernel
theorem d11_71 : decode prog_84_method_2_code 71 = .ok (.aload_n 0, 1) := by decide +kernel
theorem d11_72 : decode prog_84_method_2_code 72 = .ok (.lconst 0, 1) := by decide +kernel
theorem d11_73 : decode prog_84_method_2_code 73 = .ok (.putfield 43, 3) := by decide +kernel
theorem d11_76 : decode prog_84_method_2_code 76 = .ok (.aload_n 0, 1) := by decide +kernel
theorem d11_77 : decode prog_84_method_2_code 77 = .ok (.lconst 0, 1) := by decide +kernel
theorem d11_78 : decode prog_84_method_2_code 78 = .ok (.putfield 50, 3) := by decide +kernel
theorem d11_81 : decode prog_84_method_2_code 81 = .ok (.aload_n 0, 1) := by decide +kernel
theorem d11_82 : decode prog_84_method_2_code 82 = .ok (.lconst 0, 1) := by decide +kernel
theorem d11_83 : decode prog_84_method_2_code 83 = .ok (.putfield 53, 3) := by decide +kernel
theorem d11_86 : decode prog_84_method_2_code 86 = .ok (.aload_n 0, 1) := by decide +kernel
theorem d11_87 : decode prog_84_method_2_code 87 = .ok (.iconst 1, 1) := by decide +kernel
theorem d11_88 : decode prog_84_method_2_code 88 = .ok (.putfield 56, 3) := by decide +kernel
theorem d11_91 : decode prog_84_method_2_code 91 = .ok (.return_, 1) := by decide +kernel
set_option maxRecDepth 65536 in
set_option maxHeartbeats 40000000 in
theorem rmSo (l : Launch) (Z : State) (a0 : Array Value) (hw : ∀ d ∈ tables_1, d.before a0 Z = true) (ws : List Jvm.Cond) (a gr : Addr) (W H : Nat) (tk : Int64) (dc : Int32) (gv fv ev : Value) (wr wc : Int64) (rw0 : Int32) (h0 : Heap) (n0 : Nat) (Z0 : n0 ≤ h0.size) (E_a : Exa Z h0 a "com/example/gridwright/gridwright/engine/SmallDraft") (F_0 : Fld Z h0 a "com/example/gridwright/gridwright/engine/Draft" "width" "I" (.int (Int32.ofNat W))) (F_1 : Fld Z h0 a "com/example/gridwright/gridwright/engine/Draft" "height" "I" (.int (Int32.ofNat H))) (F_2 : Fld Z h0 a "com/example/gridwright/gridwright/engine/Draft" "taken" "J" (.long tk)) (F_3 : Fld Z h0 a "com/example/gridwright/gridwright/engine/Draft" "decided" "I" (.int dc)) (F_4 : Fld Z h0 a "com/example/gridwright/gridwright/engine/SmallDraft" "grid" "Lcom/example/gridwright/gridwright/engine/Grid;" gv) (F_5 : Fld Z h0 a "com/example/gridwright/gridwright/engine/SmallDraft" "filled" "[J" fv) (F_6 : Fld Z h0 a "com/example/gridwright/gridwright/engine/SmallDraft" "empty" "[J" ev) (F_7 : Fld Z h0 a "com/example/gridwright/gridwright/engine/SmallDraft" "changedRows" "J" (.long (0 : Int64))) (F_8 : Fld Z h0 a "com/example/gridwright/gridwright/engine/SmallDraft" "changedColumns" "J" (.long (0 : Int64))) (F_9 : Fld Z h0 a "com/example/gridwright/gridwright/engine/SmallDraft" "waitingRows" "J" (.long wr)) (F_10 : Fld Z h0 a "com/example/gridwright/gridwright/engine/SmallDraft" "waitingColumns" "J" (.long wc)) (F_11 : Fld Z h0 a "com/example/gridwright/gridwright/engine/SmallDraft" "rows" "Z" (.int rw0)) (g_a : n0 ≤ a) :
    Ctr l Z (⟨"com/example/gridwright/gridwright/engine/SmallDraft", "startOver", "(Lcom/example/gridwright/gridwright/engine/Grid;)V"⟩ : MethodName) prog_84_method_2_code 4 none ws ({ frames := 0, cells := 0, slots := 0, locals := 0 } : Room) 0 0 #[(.ref a), (.ref gr)] h0 (fun v h L => v = none ∧ Fr n0 L ∧ Keep h0 h [a] ∧ Exa Z h a "com/example/gridwright/gridwright/engine/SmallDraft" ∧ Fld Z h a "com/example/gridwright/gridwright/engine/Draft" "width" "I" (.int (Int32.ofNat W)) ∧ Fld Z h a "com/example/gridwright/gridwright/engine/Draft" "height" "I" (.int (Int32.ofNat H)) ∧ Fld Z h a "com/example/gridwright/gridwright/engine/Draft" "taken" "J" (.long tk) ∧ Fld Z h a "com/example/gridwright/gridwright/engine/Draft" "decided" "I" (.int dc) ∧ Fld Z h a "com/example/gridwright/gridwright/engine/SmallDraft" "grid" "Lcom/example/gridwright/gridwright/engine/Grid;" (.ref gr) ∧ Fld Z h a "com/example/gridwright/gridwright/engine/SmallDraft" "filled" "[J" fv ∧ Fld Z h a "com/example/gridwright/gridwright/engine/SmallDraft" "empty" "[J" ev ∧ Fld Z h a "com/example/gridwright/gridwright/engine/SmallDraft" "changedRows" "J" (.long (0 : Int64)) ∧ Fld Z h a "com/example/gridwright/gridwright/engine/SmallDraft" "changedColumns" "J" (.long (0 : Int64)) ∧ Fld Z h a "com/example/gridwright/gridwright/engine/SmallDraft" "waitingRows" "J" (.long (0 : Int64)) ∧ Fld Z h a "com/example/gridwright/gridwright/engine/SmallDraft" "waitingColumns" "J" (.long (0 : Int64)) ∧ Fld Z h a "com/example/gridwright/gridwright/engine/SmallDraft" "rows" "Z" (.int (1 : Int32))) := by
  refine Ctr.mk (plainFor_of_name pn_4) fun p e s m below meth c T0 X0 C e0 => go_cast (ef_rmSo m a gr) ?_
  have N0 := Fr.nil n0
  obtain ⟨hx, hZ, hby, hml, hown, hnm, hret, hlk⟩ := C
  obtain ⟨hI, eI⟩ : ∃ z, z = h0 := ⟨_, rfl⟩
  have K0 : Keep hI h0 [a] := by rw [eI]; exact Keep.refl _ _
  show Go _ _ _ _ _ _ _ T0 (mkF m 0 #[.val (.ref a), .val (.ref gr), .unset, .unset] [])
  refine Go.step (fun tt kk => XS.aloadN X0.here hx rfl (hb hby d11_0) rfl rfl kk) ?_
  show Go _ _ _ _ _ _ _ T0 (mkF m 1 #[.val (.ref a), .val (.ref gr), .unset, .unset] [(.ref a)])
  refine Go.step (fun tt kk => XS.aloadN X0.here hx rfl (hb hby d11_1) rfl rfl kk) ?_
  show Go _ _ _ _ _ _ _ T0 (mkF m 2 #[.val (.ref a), .val (.ref gr), .unset, .unset] [(.ref gr), (.ref a)])
  obtain ⟨T1, h1, X1, e1, W1, st1⟩ := putF X0 hx hZ hown (host := "") (Or.inl (hw _ (List.mem_of_getElem? (i := 82) rfl))) Via.refl e0 F_4 E_a (Or.inl (hw _ (List.mem_of_getElem? (i := 83) rfl))) (hw _ (List.mem_of_getElem? (i := 2) rfl)) (ty := (.object "com/example/gridwright/gridwright/engine/Grid")) (by decide) rfl rfl (g := (mkF m 2 #[.val (.ref a), .val (.ref gr), .unset, .unset] [(.ref gr), (.ref a)])) rfl rfl (hb hby d11_2)
  have F1 := Fld.same W1 F_4
  have N1 := Fr.snoc X1 N0 g_a
  have Z1 : n0 ≤ h1.size := Nat.le_trans Z0 (Keep.of_wr W1).1
  have K1 : Keep hI h1 [a] := K0.wr W1 (Or.inl (List.mem_of_getElem? (i := 0) rfl))
  refine Go.step (st1) ?_
  show Go _ _ _ _ _ _ _ T1 (mkF m 5 #[.val (.ref a), .val (.ref gr), .unset, .unset] [])
  refine Go.step (fun tt kk => XS.aloadN X1.here hx rfl (hb hby d11_5) rfl rfl kk) ?_
  show Go _ _ _ _ _ _ _ T1 (mkF m 6 #[.val (.ref a), .val (.ref gr), .unset, .unset] [(.ref a)])
  have f3 := (Fld.other W1 F_7 (Or.inr (slot_ne (Or.inl (hw _ (List.mem_of_getElem? (i := 85) rfl))) (Or.inl (hw _ (List.mem_of_getElem? (i := 83) rfl))) (by decide) (t := .long) (t' := (.object "com/example/gridwright/gridwright/engine/Grid")) (by decide) (by decide))))
  obtain ⟨T2, X2, e2, st2⟩ := getF X1 hx hZ hown (host := "") (Or.inl (hw _ (List.mem_of_getElem? (i := 84) rfl))) Via.refl e1 f3 (g := (mkF m 6 #[.val (.ref a), .val (.ref gr), .unset, .unset] [(.ref a)])) rfl rfl (hb hby d11_6)
  refine Go.step (st2) ?_
  show Go _ _ _ _ _ _ _ T2 (mkF m 9 #[.val (.ref a), .val (.ref gr), .unset, .unset] [(.long (0 : Int64))])
  refine Go.step (fun tt kk => XS.lstoreN X2.here hx rfl (hb hby d11_9) rfl (l' := #[.val (.ref a), .val (.ref gr), .val (.long (0 : Int64)), .second]) rfl kk) ?_
  show Go _ _ _ _ _ _ _ T2 (mkF m 10 #[.val (.ref a), .val (.ref gr), .val (.long (0 : Int64)), .second] [])
  refine Go.step (fun tt kk => XS.lloadN X2.here hx rfl (hb hby d11_10) rfl kk) ?_
  show Go _ _ _ _ _ _ _ T2 (mkF m 11 #[.val (.ref a), .val (.ref gr), .val (.long (0 : Int64)), .second] [(.long (0 : Int64))])
  refine Go.step (fun tt kk => XS.lconst X2.here hx rfl (hb hby d11_11) kk) ?_
  show Go _ _ _ _ _ _ _ T2 (mkF m 12 #[.val (.ref a), .val (.ref gr), .val (.long (0 : Int64)), .second] [(.long (0 : Int64)), (.long (0 : Int64))])
  refine Go.step (fun tt kk => XS.lcmp X2.here hx rfl (hb hby d11_12) rfl kk) ?_
  show Go _ _ _ _ _ _ _ T2 (mkF m 13 #[.val (.ref a), .val (.ref gr), .val (.long (0 : Int64)), .second] [(.int (lcmpW (0 : Int64) (0 : Int64)))])
  refine Go.step (fun tt kk => XS.ifYes X2.here hx rfl (pc0 := 13) (pc' := 33) rfl (hb hby d11_13) rfl ((if0 _ _).trans (teq ((lw_eq _ _).mpr rfl)).1) (by decide) (by decide) kk) ?_
  show Go _ _ _ _ _ _ _ T2 (mkF m 33 #[.val (.ref a), .val (.ref gr), .val (.long (0 : Int64)), .second] [])
  refine Go.step (fun tt kk => XS.aloadN X2.here hx rfl (hb hby d11_33) rfl rfl kk) ?_
  show Go _ _ _ _ _ _ _ T2 (mkF m 34 #[.val (.ref a), .val (.ref gr), .val (.long (0 : Int64)), .second] [(.ref a)])
  have f5 := (Fld.other W1 F_8 (Or.inr (slot_ne (Or.inl (hw _ (List.mem_of_getElem? (i := 87) rfl))) (Or.inl (hw _ (List.mem_of_getElem? (i := 83) rfl))) (by decide) (t := .long) (t' := (.object "com/example/gridwright/gridwright/engine/Grid")) (by decide) (by decide))))
  obtain ⟨T4, X4, e4, st4⟩ := getF X2 hx hZ hown (host := "") (Or.inl (hw _ (List.mem_of_getElem? (i := 86) rfl))) Via.refl e2 f5 (g := (mkF m 34 #[.val (.ref a), .val (.ref gr), .val (.long (0 : Int64)), .second] [(.ref a)])) rfl rfl (hb hby d11_34)
  refine Go.step (st4) ?_
  show Go _ _ _ _ _ _ _ T4 (mkF m 37 #[.val (.ref a), .val (.ref gr), .val (.long (0 : Int64)), .second] [(.long (0 : Int64))])
  refine Go.step (fun tt kk => XS.lstoreN X4.here hx rfl (hb hby d11_37) rfl (l' := #[.val (.ref a), .val (.ref gr), .val (.long (0 : Int64)), .second]) rfl kk) ?_
  show Go _ _ _ _ _ _ _ T4 (mkF m 38 #[.val (.ref a), .val (.ref gr), .val (.long (0 : Int64)), .second] [])
  refine Go.step (fun tt kk => XS.lloadN X4.here hx rfl (hb hby d11_38) rfl kk) ?_
  show Go _ _ _ _ _ _ _ T4 (mkF m 39 #[.val (.ref a), .val (.ref gr), .val (.long (0 : Int64)), .second] [(.long (0 : Int64))])
  refine Go.step (fun tt kk => XS.lconst X4.here hx rfl (hb hby d11_39) kk) ?_
  show Go _ _ _ _ _ _ _ T4 (mkF m 40 #[.val (.ref a), .val (.ref gr), .val (.long (0 : Int64)), .second] [(.long (0 : Int64)), (.long (0 : Int64))])
  refine Go.step (fun tt kk => XS.lcmp X4.here hx rfl (hb hby d11_40) rfl kk) ?_
  show Go _ _ _ _ _ _ _ T4 (mkF m 41 #[.val (.ref a), .val (.ref gr), .val (.long (0 : Int64)), .second] [(.int (lcmpW (0 : Int64) (0 : Int64)))])
  refine Go.step (fun tt kk => XS.ifYes X4.here hx rfl (pc0 := 41) (pc' := 66) rfl (hb hby d11_41) rfl ((if0 _ _).trans (teq ((lw_eq _ _).mpr rfl)).1) (by decide) (by decide) kk) ?_
  show Go _ _ _ _ _ _ _ T4 (mkF m 66 #[.val (.ref a), .val (.ref gr), .val (.long (0 : Int64)), .second] [])
  refine Go.step (fun tt kk => XS.aloadN X4.here hx rfl (hb hby d11_66) rfl rfl kk) ?_
  show Go _ _ _ _ _ _ _ T4 (mkF m 67 #[.val (.ref a), .val (.ref gr), .val (.long (0 : Int64)), .second] [(.ref a)])
  refine Go.step (fun tt kk => XS.lconst X4.here hx rfl (hb hby d11_67) kk) ?_
  show Go _ _ _ _ _ _ _ T4 (mkF m 68 #[.val (.ref a), .val (.ref gr), .val (.long (0 : Int64)), .second] [(.long (0 : Int64)), (.ref a)])
  have f7 := (Exa.wr W1 E_a)
  obtain ⟨T6, h6, X6, e6, W6, st6⟩ := putF X4 hx hZ hown (host := "") (Or.inl (hw _ (List.mem_of_getElem? (i := 84) rfl))) Via.refl e4 f3 f7 (Or.inl (hw _ (List.mem_of_getElem? (i := 85) rfl))) (hw _ (List.mem_of_getElem? (i := 2) rfl)) (ty := .long) (by decide) rfl rfl (g := (mkF m 68 #[.val (.ref a), .val (.ref gr), .val (.long (0 : Int64)), .second] [(.long (0 : Int64)), (.ref a)])) rfl rfl (hb hby d11_68)
  have F6 := Fld.same W6 f3
  have N6 := Fr.snoc X6 N1 g_a
  have Z6 : n0 ≤ h6.size := Nat.le_trans Z1 (Keep.of_wr W6).1
  have K6 : Keep hI h6 [a] := K1.wr W6 (Or.inl (List.mem_of_getElem? (i := 0) rfl))
  refine Go.step (st6) ?_
  show Go _ _ _ _ _ _ _ T6 (mkF m 71 #[.val (.ref a), .val (.ref gr), .val (.long (0 : Int64)), .second] [])
  refine Go.step (fun tt kk => XS.aloadN X6.here hx rfl (hb hby d11_71) rfl rfl kk) ?_
  show Go _ _ _ _ _ _ _ T6 (mkF m 72 #[.val (.ref a), .val (.ref gr), .val (.long (0 : Int64)), .second] [(.ref a)])
  refine Go.step (fun tt kk => XS.lconst X6.here hx rfl (hb hby d11_72) kk) ?_
  show Go _ _ _ _ _ _ _ T6 (mkF m 73 #[.val (.ref a), .val (.ref gr), .val (.long (0 : Int64)), .second] [(.long (0 : Int64)), (.ref a)])
  have f9 := (Fld.other W6 f5 (Or.inr (slot_ne (Or.inl (hw _ (List.mem_of_getElem? (i := 87) rfl))) (Or.inl (hw _ (List.mem_of_getElem? (i := 85) rfl))) (by decide) (t := .long) (t' := .long) (by decide) (by decide))))
  have f10 := (Exa.wr W6 f7)
  obtain ⟨T8, h8, X8, e8, W8, st8⟩ := putF X6 hx hZ hown (host := "") (Or.inl (hw _ (List.mem_of_getElem? (i := 86) rfl))) Via.refl e6 f9 f10 (Or.inl (hw _ (List.mem_of_getElem? (i := 87) rfl))) (hw _ (List.mem_of_getElem? (i := 2) rfl)) (ty := .long) (by decide) rfl rfl (g := (mkF m 73 #[.val (.ref a), .val (.ref gr), .val (.long (0 : Int64)), .second] [(.long (0 : Int64)), (.ref a)])) rfl rfl (hb hby d11_73)
  have F8 := Fld.same W8 f9
  have N8 := Fr.snoc X8 N6 g_a
  have Z8 : n0 ≤ h8.size := Nat.le_trans Z6 (Keep.of_wr W8).1
  have K8 : Keep hI h8 [a] := K6.wr W8 (Or.inl (List.mem_of_getElem? (i := 0) rfl))
  refine Go.step (st8) ?_
  show Go _ _ _ _ _ _ _ T8 (mkF m 76 #[.val (.ref a), .val (.ref gr), .val (.long (0 : Int64)), .second] [])
  refine Go.step (fun tt kk => XS.aloadN X8.here hx rfl (hb hby d11_76) rfl rfl kk) ?_
  show Go _ _ _ _ _ _ _ T8 (mkF m 77 #[.val (.ref a), .val (.ref gr), .val (.long (0 : Int64)), .second] [(.ref a)])
  refine Go.step (fun tt kk => XS.lconst X8.here hx rfl (hb hby d11_77) kk) ?_
  show Go _ _ _ _ _ _ _ T8 (mkF m 78 #[.val (.ref a), .val (.ref gr), .val (.long (0 : Int64)), .second] [(.long (0 : Int64)), (.ref a)])
  have f12 := (Fld.other W8 (Fld.other W6 (Fld.other W1 F_9 (Or.inr (slot_ne (Or.inl (hw _ (List.mem_of_getElem? (i := 89) rfl))) (Or.inl (hw _ (List.mem_of_getElem? (i := 83) rfl))) (by decide) (t := .long) (t' := (.object "com/example/gridwright/gridwright/engine/Grid")) (by decide) (by decide)))) (Or.inr (slot_ne (Or.inl (hw _ (List.mem_of_getElem? (i := 89) rfl))) (Or.inl (hw _ (List.mem_of_getElem? (i := 85) rfl))) (by decide) (t := .long) (t' := .long) (by decide) (by decide)))) (Or.inr (slot_ne (Or.inl (hw _ (List.mem_of_getElem? (i := 89) rfl))) (Or.inl (hw _ (List.mem_of_getElem? (i := 87) rfl))) (by decide) (t := .long) (t' := .long) (by decide) (by decide))))
  have f13 := (Exa.wr W8 f10)
  obtain ⟨T11, h11, X11, e11, W11, st11⟩ := putF X8 hx hZ hown (host := "") (Or.inl (hw _ (List.mem_of_getElem? (i := 88) rfl))) Via.refl e8 f12 f13 (Or.inl (hw _ (List.mem_of_getElem? (i := 89) rfl))) (hw _ (List.mem_of_getElem? (i := 2) rfl)) (ty := .long) (by decide) rfl rfl (g := (mkF m 78 #[.val (.ref a), .val (.ref gr), .val (.long (0 : Int64)), .second] [(.long (0 : Int64)), (.ref a)])) rfl rfl (hb hby d11_78)
  have F11 := Fld.same W11 f12
  have N11 := Fr.snoc X11 N8 g_a
  have Z11 : n0 ≤ h11.size := Nat.le_trans Z8 (Keep.of_wr W11).1
  have K11 : Keep hI h11 [a] := K8.wr W11 (Or.inl (List.mem_of_getElem? (i := 0) rfl))
  refine Go.step (st11) ?_
  show Go _ _ _ _ _ _ _ T11 (mkF m 81 #[.val (.ref a), .val (.ref gr), .val (.long (0 : Int64)), .second] [])
  refine Go.step (fun tt kk => XS.aloadN X11.here hx rfl (hb hby d11_81) rfl rfl kk) ?_
  show Go _ _ _ _ _ _ _ T11 (mkF m 82 #[.val (.ref a), .val (.ref gr), .val (.long (0 : Int64)), .second] [(.ref a)])
  refine Go.step (fun tt kk => XS.lconst X11.here hx rfl (hb hby d11_82) kk) ?_
  show Go _ _ _ _ _ _ _ T11 (mkF m 83 #[.val (.ref a), .val (.ref gr), .val (.long (0 : Int64)), .second] [(.long (0 : Int64)), (.ref a)])
  have f15 := (Fld.other W11 (Fld.other W8 (Fld.other W6 (Fld.other W1 F_10 (Or.inr (slot_ne (Or.inl (hw _ (List.mem_of_getElem? (i := 91) rfl))) (Or.inl (hw _ (List.mem_of_getElem? (i := 83) rfl))) (by decide) (t := .long) (t' := (.object "com/example/gridwright/gridwright/engine/Grid")) (by decide) (by decide)))) (Or.inr (slot_ne (Or.inl (hw _ (List.mem_of_getElem? (i := 91) rfl))) (Or.inl (hw _ (List.mem_of_getElem? (i := 85) rfl))) (by decide) (t := .long) (t' := .long) (by decide) (by decide)))) (Or.inr (slot_ne (Or.inl (hw _ (List.mem_of_getElem? (i := 91) rfl))) (Or.inl (hw _ (List.mem_of_getElem? (i := 87) rfl))) (by decide) (t := .long) (t' := .long) (by decide) (by decide)))) (Or.inr (slot_ne (Or.inl (hw _ (List.mem_of_getElem? (i := 91) rfl))) (Or.inl (hw _ (List.mem_of_getElem? (i := 89) rfl))) (by decide) (t := .long) (t' := .long) (by decide) (by decide))))
  have f16 := (Exa.wr W11 f13)
  obtain ⟨T14, h14, X14, e14, W14, st14⟩ := putF X11 hx hZ hown (host := "") (Or.inl (hw _ (List.mem_of_getElem? (i := 90) rfl))) Via.refl e11 f15 f16 (Or.inl (hw _ (List.mem_of_getElem? (i := 91) rfl))) (hw _ (List.mem_of_getElem? (i := 2) rfl)) (ty := .long) (by decide) rfl rfl (g := (mkF m 83 #[.val (.ref a), .val (.ref gr), .val (.long (0 : Int64)), .second] [(.long (0 : Int64)), (.ref a)])) rfl rfl (hb hby d11_83)
  have F14 := Fld.same W14 f15
  have N14 := Fr.snoc X14 N11 g_a
  have Z14 : n0 ≤ h14.size := Nat.le_trans Z11 (Keep.of_wr W14).1
  have K14 : Keep hI h14 [a] := K11.wr W14 (Or.inl (List.mem_of_getElem? (i := 0) rfl))
  refine Go.step (st14) ?_
  show Go _ _ _ _ _ _ _ T14 (mkF m 86 #[.val (.ref a), .val (.ref gr), .val (.long (0 : Int64)), .second] [])
  refine Go.step (fun tt kk => XS.aloadN X14.here hx rfl (hb hby d11_86) rfl rfl kk) ?_
  show Go _ _ _ _ _ _ _ T14 (mkF m 87 #[.val (.ref a), .val (.ref gr), .val (.long (0 : Int64)), .second] [(.ref a)])
  refine Go.step (fun tt kk => XS.iconst X14.here hx rfl (hb hby d11_87) kk) ?_
  show Go _ _ _ _ _ _ _ T14 (mkF m 88 #[.val (.ref a), .val (.ref gr), .val (.long (0 : Int64)), .second] [(.int (1 : Int32)), (.ref a)])
  have f18 := (Fld.other W14 (Fld.other W11 (Fld.other W8 (Fld.other W6 (Fld.other W1 F_11 (Or.inr (slot_ne (Or.inl (hw _ (List.mem_of_getElem? (i := 93) rfl))) (Or.inl (hw _ (List.mem_of_getElem? (i := 83) rfl))) (by decide) (t := .boolean) (t' := (.object "com/example/gridwright/gridwright/engine/Grid")) (by decide) (by decide)))) (Or.inr (slot_ne (Or.inl (hw _ (List.mem_of_getElem? (i := 93) rfl))) (Or.inl (hw _ (List.mem_of_getElem? (i := 85) rfl))) (by decide) (t := .boolean) (t' := .long) (by decide) (by decide)))) (Or.inr (slot_ne (Or.inl (hw _ (List.mem_of_getElem? (i := 93) rfl))) (Or.inl (hw _ (List.mem_of_getElem? (i := 87) rfl))) (by decide) (t := .boolean) (t' := .long) (by decide) (by decide)))) (Or.inr (slot_ne (Or.inl (hw _ (List.mem_of_getElem? (i := 93) rfl))) (Or.inl (hw _ (List.mem_of_getElem? (i := 89) rfl))) (by decide) (t := .boolean) (t' := .long) (by decide) (by decide)))) (Or.inr (slot_ne (Or.inl (hw _ (List.mem_of_getElem? (i := 93) rfl))) (Or.inl (hw _ (List.mem_of_getElem? (i := 91) rfl))) (by decide) (t := .boolean) (t' := .long) (by decide) (by decide))))
  have f19 := (Exa.wr W14 f16)
  obtain ⟨T17, h17, X17, e17, W17, st17⟩ := putFN X14 hx hZ hown (hw _ (List.mem_of_getElem? (i := 92) rfl)) Via.refl e14 f18 f19 (Or.inl (hw _ (List.mem_of_getElem? (i := 93) rfl))) (hw _ (List.mem_of_getElem? (i := 2) rfl)) (ty := .boolean) (v' := (.int (1 : Int32))) (by decide) rfl rfl (g := (mkF m 88 #[.val (.ref a), .val (.ref gr), .val (.long (0 : Int64)), .second] [(.int (1 : Int32)), (.ref a)])) rfl rfl (hb hby d11_88)
  have F17 := Fld.same W17 f18
  have N17 := Fr.snoc X17 N14 g_a
  have Z17 : n0 ≤ h17.size := Nat.le_trans Z14 (Keep.of_wr W17).1
  have K17 : Keep hI h17 [a] := K14.wr W17 (Or.inl (List.mem_of_getElem? (i := 0) rfl))
  refine Go.step (st17) ?_
  show Go _ _ _ _ _ _ _ T17 (mkF m 91 #[.val (.ref a), .val (.ref gr), .val (.long (0 : Int64)), .second] [])
  have f20 := (Exa.wr W17 f19)
  have f21 := (Fld.other W17 (Fld.other W14 (Fld.other W11 (Fld.other W8 (Fld.other W6 (Fld.other W1 F_0 (Or.inr (slot_ne (Or.inr (hw _ (List.mem_of_getElem? (i := 16) rfl))) (Or.inl (hw _ (List.mem_of_getElem? (i := 83) rfl))) (by decide) (t := .int) (t' := (.object "com/example/gridwright/gridwright/engine/Grid")) (by decide) (by decide)))) (Or.inr (slot_ne (Or.inr (hw _ (List.mem_of_getElem? (i := 16) rfl))) (Or.inl (hw _ (List.mem_of_getElem? (i := 85) rfl))) (by decide) (t := .int) (t' := .long) (by decide) (by decide)))) (Or.inr (slot_ne (Or.inr (hw _ (List.mem_of_getElem? (i := 16) rfl))) (Or.inl (hw _ (List.mem_of_getElem? (i := 87) rfl))) (by decide) (t := .int) (t' := .long) (by decide) (by decide)))) (Or.inr (slot_ne (Or.inr (hw _ (List.mem_of_getElem? (i := 16) rfl))) (Or.inl (hw _ (List.mem_of_getElem? (i := 89) rfl))) (by decide) (t := .int) (t' := .long) (by decide) (by decide)))) (Or.inr (slot_ne (Or.inr (hw _ (List.mem_of_getElem? (i := 16) rfl))) (Or.inl (hw _ (List.mem_of_getElem? (i := 91) rfl))) (by decide) (t := .int) (t' := .long) (by decide) (by decide)))) (Or.inr (slot_ne (Or.inr (hw _ (List.mem_of_getElem? (i := 16) rfl))) (Or.inl (hw _ (List.mem_of_getElem? (i := 93) rfl))) (by decide) (t := .int) (t' := .boolean) (by decide) (by decide))))
  have f22 := (Fld.other W17 (Fld.other W14 (Fld.other W11 (Fld.other W8 (Fld.other W6 (Fld.other W1 F_1 (Or.inr (slot_ne (Or.inr (hw _ (List.mem_of_getElem? (i := 18) rfl))) (Or.inl (hw _ (List.mem_of_getElem? (i := 83) rfl))) (by decide) (t := .int) (t' := (.object "com/example/gridwright/gridwright/engine/Grid")) (by decide) (by decide)))) (Or.inr (slot_ne (Or.inr (hw _ (List.mem_of_getElem? (i := 18) rfl))) (Or.inl (hw _ (List.mem_of_getElem? (i := 85) rfl))) (by decide) (t := .int) (t' := .long) (by decide) (by decide)))) (Or.inr (slot_ne (Or.inr (hw _ (List.mem_of_getElem? (i := 18) rfl))) (Or.inl (hw _ (List.mem_of_getElem? (i := 87) rfl))) (by decide) (t := .int) (t' := .long) (by decide) (by decide)))) (Or.inr (slot_ne (Or.inr (hw _ (List.mem_of_getElem? (i := 18) rfl))) (Or.inl (hw _ (List.mem_of_getElem? (i := 89) rfl))) (by decide) (t := .int) (t' := .long) (by decide) (by decide)))) (Or.inr (slot_ne (Or.inr (hw _ (List.mem_of_getElem? (i := 18) rfl))) (Or.inl (hw _ (List.mem_of_getElem? (i := 91) rfl))) (by decide) (t := .int) (t' := .long) (by decide) (by decide)))) (Or.inr (slot_ne (Or.inr (hw _ (List.mem_of_getElem? (i := 18) rfl))) (Or.inl (hw _ (List.mem_of_getElem? (i := 93) rfl))) (by decide) (t := .int) (t' := .boolean) (by decide) (by decide))))
  have f23 := (Fld.other W17 (Fld.other W14 (Fld.other W11 (Fld.other W8 (Fld.other W6 (Fld.other W1 F_2 (Or.inr (slot_ne (Or.inl (hw _ (List.mem_of_getElem? (i := 74) rfl))) (Or.inl (hw _ (List.mem_of_getElem? (i := 83) rfl))) (by decide) (t := .long) (t' := (.object "com/example/gridwright/gridwright/engine/Grid")) (by decide) (by decide)))) (Or.inr (slot_ne (Or.inl (hw _ (List.mem_of_getElem? (i := 74) rfl))) (Or.inl (hw _ (List.mem_of_getElem? (i := 85) rfl))) (by decide) (t := .long) (t' := .long) (by decide) (by decide)))) (Or.inr (slot_ne (Or.inl (hw _ (List.mem_of_getElem? (i := 74) rfl))) (Or.inl (hw _ (List.mem_of_getElem? (i := 87) rfl))) (by decide) (t := .long) (t' := .long) (by decide) (by decide)))) (Or.inr (slot_ne (Or.inl (hw _ (List.mem_of_getElem? (i := 74) rfl))) (Or.inl (hw _ (List.mem_of_getElem? (i := 89) rfl))) (by decide) (t := .long) (t' := .long) (by decide) (by decide)))) (Or.inr (slot_ne (Or.inl (hw _ (List.mem_of_getElem? (i := 74) rfl))) (Or.inl (hw _ (List.mem_of_getElem? (i := 91) rfl))) (by decide) (t := .long) (t' := .long) (by decide) (by decide)))) (Or.inr (slot_ne (Or.inl (hw _ (List.mem_of_getElem? (i := 74) rfl))) (Or.inl (hw _ (List.mem_of_getElem? (i := 93) rfl))) (by decide) (t := .long) (t' := .boolean) (by decide) (by decide))))
  have f24 := (Fld.other W17 (Fld.other W14 (Fld.other W11 (Fld.other W8 (Fld.other W6 (Fld.other W1 F_3 (Or.inr (slot_ne (Or.inl (hw _ (List.mem_of_getElem? (i := 76) rfl))) (Or.inl (hw _ (List.mem_of_getElem? (i := 83) rfl))) (by decide) (t := .int) (t' := (.object "com/example/gridwright/gridwright/engine/Grid")) (by decide) (by decide)))) (Or.inr (slot_ne (Or.inl (hw _ (List.mem_of_getElem? (i := 76) rfl))) (Or.inl (hw _ (List.mem_of_getElem? (i := 85) rfl))) (by decide) (t := .int) (t' := .long) (by decide) (by decide)))) (Or.inr (slot_ne (Or.inl (hw _ (List.mem_of_getElem? (i := 76) rfl))) (Or.inl (hw _ (List.mem_of_getElem? (i := 87) rfl))) (by decide) (t := .int) (t' := .long) (by decide) (by decide)))) (Or.inr (slot_ne (Or.inl (hw _ (List.mem_of_getElem? (i := 76) rfl))) (Or.inl (hw _ (List.mem_of_getElem? (i := 89) rfl))) (by decide) (t := .int) (t' := .long) (by decide) (by decide)))) (Or.inr (slot_ne (Or.inl (hw _ (List.mem_of_getElem? (i := 76) rfl))) (Or.inl (hw _ (List.mem_of_getElem? (i := 91) rfl))) (by decide) (t := .int) (t' := .long) (by decide) (by decide)))) (Or.inr (slot_ne (Or.inl (hw _ (List.mem_of_getElem? (i := 76) rfl))) (Or.inl (hw _ (List.mem_of_getElem? (i := 93) rfl))) (by decide) (t := .int) (t' := .boolean) (by decide) (by decide))))
  have f25 := (Fld.other W17 (Fld.other W14 (Fld.other W11 (Fld.other W8 (Fld.other W6 F1 (Or.inr (slot_ne (Or.inl (hw _ (List.mem_of_getElem? (i := 83) rfl))) (Or.inl (hw _ (List.mem_of_getElem? (i := 85) rfl))) (by decide) (t := (.object "com/example/gridwright/gridwright/engine/Grid")) (t' := .long) (by decide) (by decide)))) (Or.inr (slot_ne (Or.inl (hw _ (List.mem_of_getElem? (i := 83) rfl))) (Or.inl (hw _ (List.mem_of_getElem? (i := 87) rfl))) (by decide) (t := (.object "com/example/gridwright/gridwright/engine/Grid")) (t' := .long) (by decide) (by decide)))) (Or.inr (slot_ne (Or.inl (hw _ (List.mem_of_getElem? (i := 83) rfl))) (Or.inl (hw _ (List.mem_of_getElem? (i := 89) rfl))) (by decide) (t := (.object "com/example/gridwright/gridwright/engine/Grid")) (t' := .long) (by decide) (by decide)))) (Or.inr (slot_ne (Or.inl (hw _ (List.mem_of_getElem? (i := 83) rfl))) (Or.inl (hw _ (List.mem_of_getElem? (i := 91) rfl))) (by decide) (t := (.object "com/example/gridwright/gridwright/engine/Grid")) (t' := .long) (by decide) (by decide)))) (Or.inr (slot_ne (Or.inl (hw _ (List.mem_of_getElem? (i := 83) rfl))) (Or.inl (hw _ (List.mem_of_getElem? (i := 93) rfl))) (by decide) (t := (.object "com/example/gridwright/gridwright/engine/Grid")) (t' := .boolean) (by decide) (by decide))))
  have f26 := (Fld.other W17 (Fld.other W14 (Fld.other W11 (Fld.other W8 (Fld.other W6 (Fld.other W1 F_5 (Or.inr (slot_ne (Or.inr (hw _ (List.mem_of_getElem? (i := 21) rfl))) (Or.inl (hw _ (List.mem_of_getElem? (i := 83) rfl))) (by decide) (t := (.array .long)) (t' := (.object "com/example/gridwright/gridwright/engine/Grid")) (by decide) (by decide)))) (Or.inr (slot_ne (Or.inr (hw _ (List.mem_of_getElem? (i := 21) rfl))) (Or.inl (hw _ (List.mem_of_getElem? (i := 85) rfl))) (by decide) (t := (.array .long)) (t' := .long) (by decide) (by decide)))) (Or.inr (slot_ne (Or.inr (hw _ (List.mem_of_getElem? (i := 21) rfl))) (Or.inl (hw _ (List.mem_of_getElem? (i := 87) rfl))) (by decide) (t := (.array .long)) (t' := .long) (by decide) (by decide)))) (Or.inr (slot_ne (Or.inr (hw _ (List.mem_of_getElem? (i := 21) rfl))) (Or.inl (hw _ (List.mem_of_getElem? (i := 89) rfl))) (by decide) (t := (.array .long)) (t' := .long) (by decide) (by decide)))) (Or.inr (slot_ne (Or.inr (hw _ (List.mem_of_getElem? (i := 21) rfl))) (Or.inl (hw _ (List.mem_of_getElem? (i := 91) rfl))) (by decide) (t := (.array .long)) (t' := .long) (by decide) (by decide)))) (Or.inr (slot_ne (Or.inr (hw _ (List.mem_of_getElem? (i := 21) rfl))) (Or.inl (hw _ (List.mem_of_getElem? (i := 93) rfl))) (by decide) (t := (.array .long)) (t' := .boolean) (by decide) (by decide))))
  have f27 := (Fld.other W17 (Fld.other W14 (Fld.other W11 (Fld.other W8 (Fld.other W6 (Fld.other W1 F_6 (Or.inr (slot_ne (Or.inr (hw _ (List.mem_of_getElem? (i := 23) rfl))) (Or.inl (hw _ (List.mem_of_getElem? (i := 83) rfl))) (by decide) (t := (.array .long)) (t' := (.object "com/example/gridwright/gridwright/engine/Grid")) (by decide) (by decide)))) (Or.inr (slot_ne (Or.inr (hw _ (List.mem_of_getElem? (i := 23) rfl))) (Or.inl (hw _ (List.mem_of_getElem? (i := 85) rfl))) (by decide) (t := (.array .long)) (t' := .long) (by decide) (by decide)))) (Or.inr (slot_ne (Or.inr (hw _ (List.mem_of_getElem? (i := 23) rfl))) (Or.inl (hw _ (List.mem_of_getElem? (i := 87) rfl))) (by decide) (t := (.array .long)) (t' := .long) (by decide) (by decide)))) (Or.inr (slot_ne (Or.inr (hw _ (List.mem_of_getElem? (i := 23) rfl))) (Or.inl (hw _ (List.mem_of_getElem? (i := 89) rfl))) (by decide) (t := (.array .long)) (t' := .long) (by decide) (by decide)))) (Or.inr (slot_ne (Or.inr (hw _ (List.mem_of_getElem? (i := 23) rfl))) (Or.inl (hw _ (List.mem_of_getElem? (i := 91) rfl))) (by decide) (t := (.array .long)) (t' := .long) (by decide) (by decide)))) (Or.inr (slot_ne (Or.inr (hw _ (List.mem_of_getElem? (i := 23) rfl))) (Or.inl (hw _ (List.mem_of_getElem? (i := 93) rfl))) (by decide) (t := (.array .long)) (t' := .boolean) (by decide) (by decide))))
  have f28 := (Fld.other W17 (Fld.other W14 (Fld.other W11 (Fld.other W8 F6 (Or.inr (slot_ne (Or.inl (hw _ (List.mem_of_getElem? (i := 85) rfl))) (Or.inl (hw _ (List.mem_of_getElem? (i := 87) rfl))) (by decide) (t := .long) (t' := .long) (by decide) (by decide)))) (Or.inr (slot_ne (Or.inl (hw _ (List.mem_of_getElem? (i := 85) rfl))) (Or.inl (hw _ (List.mem_of_getElem? (i := 89) rfl))) (by decide) (t := .long) (t' := .long) (by decide) (by decide)))) (Or.inr (slot_ne (Or.inl (hw _ (List.mem_of_getElem? (i := 85) rfl))) (Or.inl (hw _ (List.mem_of_getElem? (i := 91) rfl))) (by decide) (t := .long) (t' := .long) (by decide) (by decide)))) (Or.inr (slot_ne (Or.inl (hw _ (List.mem_of_getElem? (i := 85) rfl))) (Or.inl (hw _ (List.mem_of_getElem? (i := 93) rfl))) (by decide) (t := .long) (t' := .boolean) (by decide) (by decide))))
  have f29 := (Fld.other W17 (Fld.other W14 (Fld.other W11 F8 (Or.inr (slot_ne (Or.inl (hw _ (List.mem_of_getElem? (i := 87) rfl))) (Or.inl (hw _ (List.mem_of_getElem? (i := 89) rfl))) (by decide) (t := .long) (t' := .long) (by decide) (by decide)))) (Or.inr (slot_ne (Or.inl (hw _ (List.mem_of_getElem? (i := 87) rfl))) (Or.inl (hw _ (List.mem_of_getElem? (i := 91) rfl))) (by decide) (t := .long) (t' := .long) (by decide) (by decide)))) (Or.inr (slot_ne (Or.inl (hw _ (List.mem_of_getElem? (i := 87) rfl))) (Or.inl (hw _ (List.mem_of_getElem? (i := 93) rfl))) (by decide) (t := .long) (t' := .boolean) (by decide) (by decide))))
  have f30 := (Fld.other W17 (Fld.other W14 F11 (Or.inr (slot_ne (Or.inl (hw _ (List.mem_of_getElem? (i := 89) rfl))) (Or.inl (hw _ (List.mem_of_getElem? (i := 91) rfl))) (by decide) (t := .long) (t' := .long) (by decide) (by decide)))) (Or.inr (slot_ne (Or.inl (hw _ (List.mem_of_getElem? (i := 89) rfl))) (Or.inl (hw _ (List.mem_of_getElem? (i := 93) rfl))) (by decide) (t := .long) (t' := .boolean) (by decide) (by decide))))
  have f31 := (Fld.other W17 F14 (Or.inr (slot_ne (Or.inl (hw _ (List.mem_of_getElem? (i := 91) rfl))) (Or.inl (hw _ (List.mem_of_getElem? (i := 93) rfl))) (by decide) (t := .long) (t' := .boolean) (by decide) (by decide))))
  refine go_ret X17 hx hret hlk (hb hby d11_91) ?_ (by decide) (by decide)
  try rw [e17]
  exact ⟨rfl, N17, eI ▸ K17, f20, f21, f22, f23, f24, f25, f26, f27, f28, f29, f30, f31, F17⟩
theorem ef_rmSt (m : MethodId) (x0 : Addr) (x1 : Addr) : entryFrame m #[(.ref x0), (.ref x1)] 2 = mkF m 0 #[.val (.ref x0), .val (.ref x1)] [] := by first | (simp [entryFrame, mkF, argsToLocals, Value.category]; done) | rfl
theorem d8_0 : decode prog_49_method_3_code 0 = .ok (.aload_n 1, 1) := by decide +kernel
theorem pd_3 : parseMethodDescriptor "()I" = some ⟨[], some .int⟩ := by decide +kernel
theorem d8_1 : decode prog_49_method_3_code 1 = .ok (.invokevirtual 24, 3) := by decide +kernel
theorem d8_4 : decode prog_49_method_3_code 4 = .ok (.aload_n 0, 1) := by decide +kernel
theorem d8_5 : decode prog_49_method_3_code 5 = .ok (.getfield 7, 3) := by decide +kernel
theorem d8_8 : decode prog_49_method_3_code 8 = .ok (.if_icmp .ne 14, 3) := by decide +kernel
theorem d8_11 : decode prog_49_method_3_code 11 = .ok (.aload_n 1, 1) := by decide +kernel
theorem d8_12 : decode prog_49_method_3_code 12 = .ok (.invokevirtual 29, 3) := by decide +kernel
theorem d8_15 : decode prog_49_method_3_code 15 = .ok (.aload_n 0, 1) := by decide +kernel
theorem d8_16 : decode prog_49_method_3_code 16 = .ok (.getfield 13, 3) := by decide +kernel
theorem d8_19 : decode prog_49_method_3_code 19 = .ok (.if_icmp .eq 13, 3) := by decide +kernel
theorem d8_32 : decode prog_49_method_3_code 32 = .ok (.aload_n 0, 1) := by decide +kernel
theorem d8_33 : decode prog_49_method_3_code 33 = .ok (.lconst 0, 1) := by decide +kernel
theorem d8_34 : decode prog_49_method_3_code 34 = .ok (.putfield 38, 3) := by decide +kernel
theorem d8_37 : decode prog_49_method_3_code 37 = .ok (.aload_n 0, 1) := by decide +kernel
theorem d8_38 : decode prog_49_method_3_code 38 = .ok (.iconst 0, 1) := by decide +kernel
theorem d8_39 : decode prog_49_method_3_code 39 = .ok (.putfield 42, 3) := by decide +kernel
theorem d8_42 : decode prog_49_method_3_code 42 = .ok (.aload_n 0, 1) := by decide +kernel
theorem d8_43 : decode prog_49_method_3_code 43 = .ok (.aload_n 1, 1) := by decide +kernel
theorem pd_4 : parseMethodDescriptor "(Lcom/example/gridwright/gridwright/engine/Grid;)V" = some ⟨[(.object "com/example/gridwright/gridwright/engine/Grid")], none⟩ := by decide +kernel
theorem d8_44 : decode prog_49_method_3_code 44 = .ok (.invokevirtual 45, 3) := by decide +kernel
theorem d8_47 : decode prog_49_method_3_code 47 = .ok (.return_, 1) := by decide +kernel
set_option maxRecDepth 65536 in
set_option maxHeartbeats 40000000 in
theorem rmSt (l : Launch) (Z : State) (a0 : Array Value) (hw : ∀ d ∈ tables_1, d.before a0 Z = true) (ws : List Jvm.Cond) (a gr : Addr) (W H : Nat) (tk : Int64) (dc : Int32) (gv fv ev : Value) (wr wc : Int64) (rw0 : Int32) (h0 : Heap) (n0 : Nat) (Z0 : n0 ≤ h0.size) (E_a : Exa Z h0 a "com/example/gridwright/gridwright/engine/SmallDraft") (F_0 : Fld Z h0 a "com/example/gridwright/gridwright/engine/Draft" "width" "I" (.int (Int32.ofNat W))) (F_1 : Fld Z h0 a "com/example/gridwright/gridwright/engine/Draft" "height" "I" (.int (Int32.ofNat H))) (F_2 : Fld Z h0 a "com/example/gridwright/gridwright/engine/Draft" "taken" "J" (.long tk)) (F_3 : Fld Z h0 a "com/example/gridwright/gridwright/engine/Draft" "decided" "I" (.int dc)) (F_4 : Fld Z h0 a "com/example/gridwright/gridwright/engine/SmallDraft" "grid" "Lcom/example/gridwright/gridwright/engine/Grid;" gv) (F_5 : Fld Z h0 a "com/example/gridwright/gridwright/engine/SmallDraft" "filled" "[J" fv) (F_6 : Fld Z h0 a "com/example/gridwright/gridwright/engine/SmallDraft" "empty" "[J" ev) (F_7 : Fld Z h0 a "com/example/gridwright/gridwright/engine/SmallDraft" "changedRows" "J" (.long (0 : Int64))) (F_8 : Fld Z h0 a "com/example/gridwright/gridwright/engine/SmallDraft" "changedColumns" "J" (.long (0 : Int64))) (F_9 : Fld Z h0 a "com/example/gridwright/gridwright/engine/SmallDraft" "waitingRows" "J" (.long wr)) (F_10 : Fld Z h0 a "com/example/gridwright/gridwright/engine/SmallDraft" "waitingColumns" "J" (.long wc)) (F_11 : Fld Z h0 a "com/example/gridwright/gridwright/engine/SmallDraft" "rows" "Z" (.int rw0)) (g_a : n0 ≤ a) (E_g : Exa Z h0 gr "com/example/gridwright/gridwright/engine/Grid") (G_0 : Fld Z h0 gr "com/example/gridwright/gridwright/engine/Grid" "width" "I" (.int (Int32.ofNat W))) (G_1 : Fld Z h0 gr "com/example/gridwright/gridwright/engine/Grid" "height" "I" (.int (Int32.ofNat H))) (ne_a_gr : a ≠ gr) :
    Ctr l Z (⟨"com/example/gridwright/gridwright/engine/Draft", "start", "(Lcom/example/gridwright/gridwright/engine/Grid;)V"⟩ : MethodName) prog_49_method_3_code 2 none ws ({ frames := 1, cells := 0, slots := 0, locals := 15 } : Room) 0 0 #[(.ref a), (.ref gr)] h0 (fun v h L => v = none ∧ Fr n0 L ∧ Keep h0 h [a] ∧ Exa Z h a "com/example/gridwright/gridwright/engine/SmallDraft" ∧ Fld Z h a "com/example/gridwright/gridwright/engine/Draft" "width" "I" (.int (Int32.ofNat W)) ∧ Fld Z h a "com/example/gridwright/gridwright/engine/Draft" "height" "I" (.int (Int32.ofNat H)) ∧ Fld Z h a "com/example/gridwright/gridwright/engine/Draft" "taken" "J" (.long (0 : Int64)) ∧ Fld Z h a "com/example/gridwright/gridwright/engine/Draft" "decided" "I" (.int (0 : Int32)) ∧ Fld Z h a "com/example/gridwright/gridwright/engine/SmallDraft" "grid" "Lcom/example/gridwright/gridwright/engine/Grid;" (.ref gr) ∧ Fld Z h a "com/example/gridwright/gridwright/engine/SmallDraft" "filled" "[J" fv ∧ Fld Z h a "com/example/gridwright/gridwright/engine/SmallDraft" "empty" "[J" ev ∧ Fld Z h a "com/example/gridwright/gridwright/engine/SmallDraft" "changedRows" "J" (.long (0 : Int64)) ∧ Fld Z h a "com/example/gridwright/gridwright/engine/SmallDraft" "changedColumns" "J" (.long (0 : Int64)) ∧ Fld Z h a "com/example/gridwright/gridwright/engine/SmallDraft" "waitingRows" "J" (.long (0 : Int64)) ∧ Fld Z h a "com/example/gridwright/gridwright/engine/SmallDraft" "waitingColumns" "J" (.long (0 : Int64)) ∧ Fld Z h a "com/example/gridwright/gridwright/engine/SmallDraft" "rows" "Z" (.int (1 : Int32))) := by
  refine Ctr.mk (plainFor_of_name pn_3) fun p e s m below meth c T0 X0 C e0 => go_cast (ef_rmSt m a gr) ?_
  have N0 := Fr.nil n0
  obtain ⟨hx, hZ, hby, hml, hown, hnm, hret, hlk⟩ := C
  obtain ⟨hI, eI⟩ : ∃ z, z = h0 := ⟨_, rfl⟩
  have K0 : Keep hI h0 [a] := by rw [eI]; exact Keep.refl _ _
  show Go _ _ _ _ _ _ _ T0 (mkF m 0 #[.val (.ref a), .val (.ref gr)] [])
  refine Go.step (fun tt kk => XS.aloadN X0.here hx rfl (hb hby d8_0) rfl rfl kk) ?_
  show Go _ _ _ _ _ _ _ T0 (mkF m 1 #[.val (.ref a), .val (.ref gr)] [(.ref gr)])
  obtain ⟨v1, T1, L1, X1, q1, st1⟩ := c_virt X0 hx hZ hown (y' := (⟨"com/example/gridwright/gridwright/engine/Grid", "width", "()I"⟩ : MethodName)) (y := (⟨"com/example/gridwright/gridwright/engine/Grid", "width", "()I"⟩ : MethodName)) (C := "com/example/gridwright/gridwright/engine/Grid") (hw _ (List.mem_of_getElem? (i := 63) rfl)) (hw _ (List.mem_of_getElem? (i := 64) rfl)) (notFace_of_selects (args := #[]) (mvT hZ (hw _ (List.mem_of_getElem? (i := 66) rfl)))) (hw _ (List.mem_of_getElem? (i := 66) rfl)) (hw _ (List.mem_of_getElem? (i := 65) rfl)) (hw _ (List.mem_of_getElem? (i := 26) rfl)) (hw _ (List.mem_of_getElem? (i := 67) rfl)) (by decide) (a := gr) (argsL := []) (rest := []) (rmGwidth l Z a0 hw [] gr (Int32.ofNat W) h0 n0 Z0 G_0) e0 E_g pd_3 rfl (by rw [hml]; rfl) (W := 0) (by show 2 * 0 + _ ≤ _; exact Nat.le_of_eq rfl) (by decide) (by decide) (by decide) (by decide) (hb hby d8_1) (Ls := #[.val (.ref a), .val (.ref gr)])
  obtain ⟨rfl, rfl, e1⟩ := q1
  have N1 := Fr.app N0 (Fr.nil n0)
  refine Go.step (st1) ?_
  show Go _ _ _ _ _ _ _ T1 (mkF m 4 #[.val (.ref a), .val (.ref gr)] [(.int (Int32.ofNat W))])
  refine Go.step (fun tt kk => XS.aloadN X1.here hx rfl (hb hby d8_4) rfl rfl kk) ?_
  show Go _ _ _ _ _ _ _ T1 (mkF m 5 #[.val (.ref a), .val (.ref gr)] [(.ref a), (.int (Int32.ofNat W))])
  obtain ⟨T2, X2, e2, st2⟩ := getF X1 hx hZ hown (host := "") (Or.inl (hw _ (List.mem_of_getElem? (i := 15) rfl))) Via.refl e1 F_0 (g := (mkF m 5 #[.val (.ref a), .val (.ref gr)] [(.ref a), (.int (Int32.ofNat W))])) rfl rfl (hb hby d8_5)
  refine Go.step (st2) ?_
  show Go _ _ _ _ _ _ _ T2 (mkF m 8 #[.val (.ref a), .val (.ref gr)] [(.int (Int32.ofNat W)), (.int (Int32.ofNat W))])
  refine Go.step (fun tt kk => XS.icmpNo X2.here hx rfl (hb hby d8_8) rfl (teq rfl).2 kk) ?_
  show Go _ _ _ _ _ _ _ T2 (mkF m 11 #[.val (.ref a), .val (.ref gr)] [])
  refine Go.step (fun tt kk => XS.aloadN X2.here hx rfl (hb hby d8_11) rfl rfl kk) ?_
  show Go _ _ _ _ _ _ _ T2 (mkF m 12 #[.val (.ref a), .val (.ref gr)] [(.ref gr)])
  obtain ⟨v3, T3, L3, X3, q3, st3⟩ := c_virt X2 hx hZ hown (y' := (⟨"com/example/gridwright/gridwright/engine/Grid", "height", "()I"⟩ : MethodName)) (y := (⟨"com/example/gridwright/gridwright/engine/Grid", "height", "()I"⟩ : MethodName)) (C := "com/example/gridwright/gridwright/engine/Grid") (hw _ (List.mem_of_getElem? (i := 68) rfl)) (hw _ (List.mem_of_getElem? (i := 69) rfl)) (notFace_of_selects (args := #[]) (mvT hZ (hw _ (List.mem_of_getElem? (i := 71) rfl)))) (hw _ (List.mem_of_getElem? (i := 71) rfl)) (hw _ (List.mem_of_getElem? (i := 70) rfl)) (hw _ (List.mem_of_getElem? (i := 26) rfl)) (hw _ (List.mem_of_getElem? (i := 72) rfl)) (by decide) (a := gr) (argsL := []) (rest := []) (rmGheight l Z a0 hw [] gr (Int32.ofNat H) h0 n0 Z0 G_1) e2 E_g pd_3 rfl (by rw [hml]; rfl) (W := 0) (by show 2 * 0 + _ ≤ _; exact Nat.le_of_eq rfl) (by decide) (by decide) (by decide) (by decide) (hb hby d8_12) (Ls := #[.val (.ref a), .val (.ref gr)])
  obtain ⟨rfl, rfl, e3⟩ := q3
  have N3 := Fr.app N1 (Fr.nil n0)
  refine Go.step (st3) ?_
  show Go _ _ _ _ _ _ _ T3 (mkF m 15 #[.val (.ref a), .val (.ref gr)] [(.int (Int32.ofNat H))])
  refine Go.step (fun tt kk => XS.aloadN X3.here hx rfl (hb hby d8_15) rfl rfl kk) ?_
  show Go _ _ _ _ _ _ _ T3 (mkF m 16 #[.val (.ref a), .val (.ref gr)] [(.ref a), (.int (Int32.ofNat H))])
  obtain ⟨T4, X4, e4, st4⟩ := getF X3 hx hZ hown (host := "") (Or.inl (hw _ (List.mem_of_getElem? (i := 17) rfl))) Via.refl e3 F_1 (g := (mkF m 16 #[.val (.ref a), .val (.ref gr)] [(.ref a), (.int (Int32.ofNat H))])) rfl rfl (hb hby d8_16)
  refine Go.step (st4) ?_
  show Go _ _ _ _ _ _ _ T4 (mkF m 19 #[.val (.ref a), .val (.ref gr)] [(.int (Int32.ofNat H)), (.int (Int32.ofNat H))])
  refine Go.step (fun tt kk => XS.icmpYes X4.here hx rfl (pc0 := 19) (pc' := 32) rfl (hb hby d8_19) rfl (teq rfl).1 (by decide) (by decide) kk) ?_
  show Go _ _ _ _ _ _ _ T4 (mkF m 32 #[.val (.ref a), .val (.ref gr)] [])
  refine Go.step (fun tt kk => XS.aloadN X4.here hx rfl (hb hby d8_32) rfl rfl kk) ?_
  show Go _ _ _ _ _ _ _ T4 (mkF m 33 #[.val (.ref a), .val (.ref gr)] [(.ref a)])
  refine Go.step (fun tt kk => XS.lconst X4.here hx rfl (hb hby d8_33) kk) ?_
  show Go _ _ _ _ _ _ _ T4 (mkF m 34 #[.val (.ref a), .val (.ref gr)] [(.long (0 : Int64)), (.ref a)])
  obtain ⟨T5, h5, X5, e5, W5, st5⟩ := putF X4 hx hZ hown (host := "") (Or.inl (hw _ (List.mem_of_getElem? (i := 73) rfl))) Via.refl e4 F_2 E_a (Or.inl (hw _ (List.mem_of_getElem? (i := 74) rfl))) (hw _ (List.mem_of_getElem? (i := 2) rfl)) (ty := .long) (by decide) rfl rfl (g := (mkF m 34 #[.val (.ref a), .val (.ref gr)] [(.long (0 : Int64)), (.ref a)])) rfl rfl (hb hby d8_34)
  have F5 := Fld.same W5 F_2
  have N5 := Fr.snoc X5 N3 g_a
  have Z5 : n0 ≤ h5.size := Nat.le_trans Z0 (Keep.of_wr W5).1
  have K5 : Keep hI h5 [a] := K0.wr W5 (Or.inl (List.mem_of_getElem? (i := 0) rfl))
  refine Go.step (st5) ?_
  show Go _ _ _ _ _ _ _ T5 (mkF m 37 #[.val (.ref a), .val (.ref gr)] [])
  refine Go.step (fun tt kk => XS.aloadN X5.here hx rfl (hb hby d8_37) rfl rfl kk) ?_
  show Go _ _ _ _ _ _ _ T5 (mkF m 38 #[.val (.ref a), .val (.ref gr)] [(.ref a)])
  refine Go.step (fun tt kk => XS.iconst X5.here hx rfl (hb hby d8_38) kk) ?_
  show Go _ _ _ _ _ _ _ T5 (mkF m 39 #[.val (.ref a), .val (.ref gr)] [(.int (0 : Int32)), (.ref a)])
  have f7 := (Fld.other W5 F_3 (Or.inr (slot_ne (Or.inl (hw _ (List.mem_of_getElem? (i := 76) rfl))) (Or.inl (hw _ (List.mem_of_getElem? (i := 74) rfl))) (by decide) (t := .int) (t' := .long) (by decide) (by decide))))
  have f8 := (Exa.wr W5 E_a)
  obtain ⟨T6, h6, X6, e6, W6, st6⟩ := putF X5 hx hZ hown (host := "") (Or.inl (hw _ (List.mem_of_getElem? (i := 75) rfl))) Via.refl e5 f7 f8 (Or.inl (hw _ (List.mem_of_getElem? (i := 76) rfl))) (hw _ (List.mem_of_getElem? (i := 2) rfl)) (ty := .int) (by decide) rfl rfl (g := (mkF m 39 #[.val (.ref a), .val (.ref gr)] [(.int (0 : Int32)), (.ref a)])) rfl rfl (hb hby d8_39)
  have F6 := Fld.same W6 f7
  have N6 := Fr.snoc X6 N5 g_a
  have Z6 : n0 ≤ h6.size := Nat.le_trans Z5 (Keep.of_wr W6).1
  have K6 : Keep hI h6 [a] := K5.wr W6 (Or.inl (List.mem_of_getElem? (i := 0) rfl))
  refine Go.step (st6) ?_
  show Go _ _ _ _ _ _ _ T6 (mkF m 42 #[.val (.ref a), .val (.ref gr)] [])
  refine Go.step (fun tt kk => XS.aloadN X6.here hx rfl (hb hby d8_42) rfl rfl kk) ?_
  show Go _ _ _ _ _ _ _ T6 (mkF m 43 #[.val (.ref a), .val (.ref gr)] [(.ref a)])
  refine Go.step (fun tt kk => XS.aloadN X6.here hx rfl (hb hby d8_43) rfl rfl kk) ?_
  show Go _ _ _ _ _ _ _ T6 (mkF m 44 #[.val (.ref a), .val (.ref gr)] [(.ref gr), (.ref a)])
  have f10 := (Exa.wr W6 f8)
  have f11 := (Fld.other W6 (Fld.other W5 F_0 (Or.inr (slot_ne (Or.inr (hw _ (List.mem_of_getElem? (i := 16) rfl))) (Or.inl (hw _ (List.mem_of_getElem? (i := 74) rfl))) (by decide) (t := .int) (t' := .long) (by decide) (by decide)))) (Or.inr (slot_ne (Or.inr (hw _ (List.mem_of_getElem? (i := 16) rfl))) (Or.inl (hw _ (List.mem_of_getElem? (i := 76) rfl))) (by decide) (t := .int) (t' := .int) (by decide) (by decide))))
  have f12 := (Fld.other W6 (Fld.other W5 F_1 (Or.inr (slot_ne (Or.inr (hw _ (List.mem_of_getElem? (i := 18) rfl))) (Or.inl (hw _ (List.mem_of_getElem? (i := 74) rfl))) (by decide) (t := .int) (t' := .long) (by decide) (by decide)))) (Or.inr (slot_ne (Or.inr (hw _ (List.mem_of_getElem? (i := 18) rfl))) (Or.inl (hw _ (List.mem_of_getElem? (i := 76) rfl))) (by decide) (t := .int) (t' := .int) (by decide) (by decide))))
  have f13 := (Fld.other W6 F5 (Or.inr (slot_ne (Or.inl (hw _ (List.mem_of_getElem? (i := 74) rfl))) (Or.inl (hw _ (List.mem_of_getElem? (i := 76) rfl))) (by decide) (t := .long) (t' := .int) (by decide) (by decide))))
  have f14 := (Fld.other W6 (Fld.other W5 F_4 (Or.inr (slot_ne (Or.inl (hw _ (List.mem_of_getElem? (i := 83) rfl))) (Or.inl (hw _ (List.mem_of_getElem? (i := 74) rfl))) (by decide) (t := (.object "com/example/gridwright/gridwright/engine/Grid")) (t' := .long) (by decide) (by decide)))) (Or.inr (slot_ne (Or.inl (hw _ (List.mem_of_getElem? (i := 83) rfl))) (Or.inl (hw _ (List.mem_of_getElem? (i := 76) rfl))) (by decide) (t := (.object "com/example/gridwright/gridwright/engine/Grid")) (t' := .int) (by decide) (by decide))))
  have f15 := (Fld.other W6 (Fld.other W5 F_5 (Or.inr (slot_ne (Or.inr (hw _ (List.mem_of_getElem? (i := 21) rfl))) (Or.inl (hw _ (List.mem_of_getElem? (i := 74) rfl))) (by decide) (t := (.array .long)) (t' := .long) (by decide) (by decide)))) (Or.inr (slot_ne (Or.inr (hw _ (List.mem_of_getElem? (i := 21) rfl))) (Or.inl (hw _ (List.mem_of_getElem? (i := 76) rfl))) (by decide) (t := (.array .long)) (t' := .int) (by decide) (by decide))))
  have f16 := (Fld.other W6 (Fld.other W5 F_6 (Or.inr (slot_ne (Or.inr (hw _ (List.mem_of_getElem? (i := 23) rfl))) (Or.inl (hw _ (List.mem_of_getElem? (i := 74) rfl))) (by decide) (t := (.array .long)) (t' := .long) (by decide) (by decide)))) (Or.inr (slot_ne (Or.inr (hw _ (List.mem_of_getElem? (i := 23) rfl))) (Or.inl (hw _ (List.mem_of_getElem? (i := 76) rfl))) (by decide) (t := (.array .long)) (t' := .int) (by decide) (by decide))))
  have f17 := (Fld.other W6 (Fld.other W5 F_7 (Or.inr (slot_ne (Or.inl (hw _ (List.mem_of_getElem? (i := 85) rfl))) (Or.inl (hw _ (List.mem_of_getElem? (i := 74) rfl))) (by decide) (t := .long) (t' := .long) (by decide) (by decide)))) (Or.inr (slot_ne (Or.inl (hw _ (List.mem_of_getElem? (i := 85) rfl))) (Or.inl (hw _ (List.mem_of_getElem? (i := 76) rfl))) (by decide) (t := .long) (t' := .int) (by decide) (by decide))))
  have f18 := (Fld.other W6 (Fld.other W5 F_8 (Or.inr (slot_ne (Or.inl (hw _ (List.mem_of_getElem? (i := 87) rfl))) (Or.inl (hw _ (List.mem_of_getElem? (i := 74) rfl))) (by decide) (t := .long) (t' := .long) (by decide) (by decide)))) (Or.inr (slot_ne (Or.inl (hw _ (List.mem_of_getElem? (i := 87) rfl))) (Or.inl (hw _ (List.mem_of_getElem? (i := 76) rfl))) (by decide) (t := .long) (t' := .int) (by decide) (by decide))))
  have f19 := (Fld.other W6 (Fld.other W5 F_9 (Or.inr (slot_ne (Or.inl (hw _ (List.mem_of_getElem? (i := 89) rfl))) (Or.inl (hw _ (List.mem_of_getElem? (i := 74) rfl))) (by decide) (t := .long) (t' := .long) (by decide) (by decide)))) (Or.inr (slot_ne (Or.inl (hw _ (List.mem_of_getElem? (i := 89) rfl))) (Or.inl (hw _ (List.mem_of_getElem? (i := 76) rfl))) (by decide) (t := .long) (t' := .int) (by decide) (by decide))))
  have f20 := (Fld.other W6 (Fld.other W5 F_10 (Or.inr (slot_ne (Or.inl (hw _ (List.mem_of_getElem? (i := 91) rfl))) (Or.inl (hw _ (List.mem_of_getElem? (i := 74) rfl))) (by decide) (t := .long) (t' := .long) (by decide) (by decide)))) (Or.inr (slot_ne (Or.inl (hw _ (List.mem_of_getElem? (i := 91) rfl))) (Or.inl (hw _ (List.mem_of_getElem? (i := 76) rfl))) (by decide) (t := .long) (t' := .int) (by decide) (by decide))))
  have f21 := (Fld.other W6 (Fld.other W5 F_11 (Or.inr (slot_ne (Or.inl (hw _ (List.mem_of_getElem? (i := 93) rfl))) (Or.inl (hw _ (List.mem_of_getElem? (i := 74) rfl))) (by decide) (t := .boolean) (t' := .long) (by decide) (by decide)))) (Or.inr (slot_ne (Or.inl (hw _ (List.mem_of_getElem? (i := 93) rfl))) (Or.inl (hw _ (List.mem_of_getElem? (i := 76) rfl))) (by decide) (t := .boolean) (t' := .int) (by decide) (by decide))))
  obtain ⟨v9, T9, L9, X9, q9, st9⟩ := c_virt X6 hx hZ hown (y' := (⟨"com/example/gridwright/gridwright/engine/Draft", "startOver", "(Lcom/example/gridwright/gridwright/engine/Grid;)V"⟩ : MethodName)) (y := (⟨"com/example/gridwright/gridwright/engine/SmallDraft", "startOver", "(Lcom/example/gridwright/gridwright/engine/Grid;)V"⟩ : MethodName)) (C := "com/example/gridwright/gridwright/engine/SmallDraft") (hw _ (List.mem_of_getElem? (i := 77) rfl)) (hw _ (List.mem_of_getElem? (i := 78) rfl)) (own_nf (mvT (args := #[]) hZ (hw _ (List.mem_of_getElem? (i := 61) rfl))) rfl) (hw _ (List.mem_of_getElem? (i := 79) rfl)) (hw _ (List.mem_of_getElem? (i := 80) rfl)) (hw _ (List.mem_of_getElem? (i := 3) rfl)) (hw _ (List.mem_of_getElem? (i := 81) rfl)) (by decide) (a := a) (argsL := [(.ref gr)]) (rest := []) (rmSo l Z a0 hw [] a gr W H (0 : Int64) (0 : Int32) gv fv ev wr wc rw0 h6 n0 Z6 f10 f11 f12 f13 F6 f14 f15 f16 f17 f18 f19 f20 f21 g_a ) e6 f10 pd_4 rfl (by rw [hml]; rfl) (W := 0) (by show 2 * 0 + _ ≤ _; exact Nat.le_of_eq rfl) (by decide) (by decide) (by decide) (by decide) (hb hby d8_44) (Ls := #[.val (.ref a), .val (.ref gr)])
  generalize e9 : T9.heap = h9 at q9
  obtain ⟨rfl, N9q, K9q, E9q, F9q0, F9q1, F9q2, F9q3, F9q4, F9q5, F9q6, F9q7, F9q8, F9q9, F9q10, F9q11⟩ := q9
  have N9 := Fr.app N6 N9q
  have Z9 : n0 ≤ h9.size := Nat.le_trans Z6 K9q.1
  have K9 : Keep hI h9 [a] := K6.trans K9q (allS (Or.inl (List.mem_of_getElem? (i := 0) rfl)) all0)
  refine Go.step (st9) ?_
  show Go _ _ _ _ _ _ _ T9 (mkF m 47 #[.val (.ref a), .val (.ref gr)] [])
  refine go_ret X9 hx hret hlk (hb hby d8_47) ?_ (by decide) (by decide)
  try rw [e9]
  exact ⟨rfl, N9, eI ▸ K9, E9q, F9q0, F9q1, F9q2, F9q3, F9q4, F9q5, F9q6, F9q7, F9q8, F9q9, F9q10, F9q11⟩
theorem ef_rmAr (m : MethodId) (x0 : Addr) (x1 : Int32) : entryFrame m #[(.ref x0), (.int x1)] 2 = mkF m 0 #[.val (.ref x0), .val (.int x1)] [] := by first | (simp [entryFrame, mkF, argsToLocals, Value.category]; done) | rfl
theorem d12_0 : decode prog_84_method_6_code 0 = .ok (.iload_n 1, 1) := by decide +kernel
theorem d12_1 : decode prog_84_method_6_code 1 = .ok (.aload_n 0, 1) := by decide +kernel
theorem d12_2 : decode prog_84_method_6_code 2 = .ok (.getfield 46, 3) := by decide +kernel
theorem d12_5 : decode prog_84_method_6_code 5 = .ok (.if_icmp .ge 18, 3) := by decide +kernel
theorem d12_8 : decode prog_84_method_6_code 8 = .ok (.aload_n 0, 1) := by decide +kernel
theorem d12_9 : decode prog_84_method_6_code 9 = .ok (.dup, 1) := by decide +kernel
theorem d12_10 : decode prog_84_method_6_code 10 = .ok (.getfield 50, 3) := by decide +kernel
theorem d12_13 : decode prog_84_method_6_code 13 = .ok (.lconst 1, 1) := by decide +kernel
theorem d12_14 : decode prog_84_method_6_code 14 = .ok (.iload_n 1, 1) := by decide +kernel
theorem d12_15 : decode prog_84_method_6_code 15 = .ok (.lshl, 1) := by decide +kernel
theorem d12_16 : decode prog_84_method_6_code 16 = .ok (.lor, 1) := by decide +kernel
theorem d12_17 : decode prog_84_method_6_code 17 = .ok (.putfield 50, 3) := by decide +kernel
theorem d12_20 : decode prog_84_method_6_code 20 = .ok (.goto 20, 3) := by decide +kernel
theorem d12_40 : decode prog_84_method_6_code 40 = .ok (.return_, 1) := by decide +kernel
set_option maxRecDepth 65536 in
set_option maxHeartbeats 40000000 in
theorem rmAr (l : Launch) (Z : State) (a0 : Array Value) (hw : ∀ d ∈ tables_1, d.before a0 Z = true) (ws : List Jvm.Cond) (a : Addr) (X : Nat) (W H : Nat) (tk : Int64) (dc : Int32) (gv fv ev : Value) (wr wc : Int64) (rw0 : Int32) (h0 : Heap) (n0 : Nat) (Z0 : n0 ≤ h0.size) (E_a : Exa Z h0 a "com/example/gridwright/gridwright/engine/SmallDraft") (F_0 : Fld Z h0 a "com/example/gridwright/gridwright/engine/Draft" "width" "I" (.int (Int32.ofNat W))) (F_1 : Fld Z h0 a "com/example/gridwright/gridwright/engine/Draft" "height" "I" (.int (Int32.ofNat H))) (F_2 : Fld Z h0 a "com/example/gridwright/gridwright/engine/Draft" "taken" "J" (.long tk)) (F_3 : Fld Z h0 a "com/example/gridwright/gridwright/engine/Draft" "decided" "I" (.int dc)) (F_4 : Fld Z h0 a "com/example/gridwright/gridwright/engine/SmallDraft" "grid" "Lcom/example/gridwright/gridwright/engine/Grid;" gv) (F_5 : Fld Z h0 a "com/example/gridwright/gridwright/engine/SmallDraft" "filled" "[J" fv) (F_6 : Fld Z h0 a "com/example/gridwright/gridwright/engine/SmallDraft" "empty" "[J" ev) (F_7 : Fld Z h0 a "com/example/gridwright/gridwright/engine/SmallDraft" "changedRows" "J" (.long (0 : Int64))) (F_8 : Fld Z h0 a "com/example/gridwright/gridwright/engine/SmallDraft" "changedColumns" "J" (.long (0 : Int64))) (F_9 : Fld Z h0 a "com/example/gridwright/gridwright/engine/SmallDraft" "waitingRows" "J" (.long wr)) (F_10 : Fld Z h0 a "com/example/gridwright/gridwright/engine/SmallDraft" "waitingColumns" "J" (.long wc)) (F_11 : Fld Z h0 a "com/example/gridwright/gridwright/engine/SmallDraft" "rows" "Z" (.int rw0)) (g_a : n0 ≤ a) (hX0 : X < 1000) (hH9 : H < 1000) (hX : X < H) :
    Ctr l Z (⟨"com/example/gridwright/gridwright/engine/SmallDraft", "await", "(I)V"⟩ : MethodName) prog_84_method_6_code 2 none ws ({ frames := 0, cells := 0, slots := 0, locals := 0 } : Room) 0 0 #[(.ref a), (.int (Int32.ofNat X))] h0 (fun v h L => v = none ∧ Fr n0 L ∧ Keep h0 h [a] ∧ Exa Z h a "com/example/gridwright/gridwright/engine/SmallDraft" ∧ Fld Z h a "com/example/gridwright/gridwright/engine/Draft" "width" "I" (.int (Int32.ofNat W)) ∧ Fld Z h a "com/example/gridwright/gridwright/engine/Draft" "height" "I" (.int (Int32.ofNat H)) ∧ Fld Z h a "com/example/gridwright/gridwright/engine/Draft" "taken" "J" (.long tk) ∧ Fld Z h a "com/example/gridwright/gridwright/engine/Draft" "decided" "I" (.int dc) ∧ Fld Z h a "com/example/gridwright/gridwright/engine/SmallDraft" "grid" "Lcom/example/gridwright/gridwright/engine/Grid;" gv ∧ Fld Z h a "com/example/gridwright/gridwright/engine/SmallDraft" "filled" "[J" fv ∧ Fld Z h a "com/example/gridwright/gridwright/engine/SmallDraft" "empty" "[J" ev ∧ Fld Z h a "com/example/gridwright/gridwright/engine/SmallDraft" "changedRows" "J" (.long (0 : Int64)) ∧ Fld Z h a "com/example/gridwright/gridwright/engine/SmallDraft" "changedColumns" "J" (.long (0 : Int64)) ∧ Fld Z h a "com/example/gridwright/gridwright/engine/SmallDraft" "waitingRows" "J" (.long (wr ||| (sh (Int32.ofNat X)))) ∧ Fld Z h a "com/example/gridwright/gridwright/engine/SmallDraft" "waitingColumns" "J" (.long wc) ∧ Fld Z h a "com/example/gridwright/gridwright/engine/SmallDraft" "rows" "Z" (.int rw0)) := by
  refine Ctr.mk (plainFor_of_name pn_4) fun p e s m below meth c T0 X0 C e0 => go_cast (ef_rmAr m a (Int32.ofNat X)) ?_
  have N0 := Fr.nil n0
  obtain ⟨hx, hZ, hby, hml, hown, hnm, hret, hlk⟩ := C
  obtain ⟨hI, eI⟩ : ∃ z, z = h0 := ⟨_, rfl⟩
  have K0 : Keep hI h0 [a] := by rw [eI]; exact Keep.refl _ _
  show Go _ _ _ _ _ _ _ T0 (mkF m 0 #[.val (.ref a), .val (.int (Int32.ofNat X))] [])
  refine Go.step (fun tt kk => XS.iloadN X0.here hx rfl (hb hby d12_0) rfl kk) ?_
  show Go _ _ _ _ _ _ _ T0 (mkF m 1 #[.val (.ref a), .val (.int (Int32.ofNat X))] [(.int (Int32.ofNat X))])
  refine Go.step (fun tt kk => XS.aloadN X0.here hx rfl (hb hby d12_1) rfl rfl kk) ?_
  show Go _ _ _ _ _ _ _ T0 (mkF m 2 #[.val (.ref a), .val (.int (Int32.ofNat X))] [(.ref a), (.int (Int32.ofNat X))])
  obtain ⟨T1, X1, e1, st1⟩ := getF X0 hx hZ hown (host := "") (Or.inl (hw _ (List.mem_of_getElem? (i := 99) rfl))) (Via.of (hw _ (List.mem_of_getElem? (i := 100) rfl))) e0 F_1 (g := (mkF m 2 #[.val (.ref a), .val (.int (Int32.ofNat X))] [(.ref a), (.int (Int32.ofNat X))])) rfl rfl (hb hby d12_2)
  refine Go.step (st1) ?_
  show Go _ _ _ _ _ _ _ T1 (mkF m 5 #[.val (.ref a), .val (.int (Int32.ofNat X))] [(.int (Int32.ofNat H)), (.int (Int32.ofNat X))])
  refine Go.step (fun tt kk => XS.icmpNo X1.here hx rfl (hb hby d12_5) rfl (tlt ((own_lt X H (by omega) (by omega)).mpr hX)).2.1 kk) ?_
  show Go _ _ _ _ _ _ _ T1 (mkF m 8 #[.val (.ref a), .val (.int (Int32.ofNat X))] [])
  refine Go.step (fun tt kk => XS.aloadN X1.here hx rfl (hb hby d12_8) rfl rfl kk) ?_
  show Go _ _ _ _ _ _ _ T1 (mkF m 9 #[.val (.ref a), .val (.int (Int32.ofNat X))] [(.ref a)])
  refine Go.step (fun tt kk => XS.dup X1.here hx rfl (hb hby d12_9) rfl rfl kk) ?_
  show Go _ _ _ _ _ _ _ T1 (mkF m 10 #[.val (.ref a), .val (.int (Int32.ofNat X))] [(.ref a), (.ref a)])
  obtain ⟨T2, X2, e2, st2⟩ := getF X1 hx hZ hown (host := "") (Or.inl (hw _ (List.mem_of_getElem? (i := 88) rfl))) Via.refl e1 F_9 (g := (mkF m 10 #[.val (.ref a), .val (.int (Int32.ofNat X))] [(.ref a), (.ref a)])) rfl rfl (hb hby d12_10)
  refine Go.step (st2) ?_
  show Go _ _ _ _ _ _ _ T2 (mkF m 13 #[.val (.ref a), .val (.int (Int32.ofNat X))] [(.long wr), (.ref a)])
  refine Go.step (fun tt kk => XS.lconst X2.here hx rfl (hb hby d12_13) kk) ?_
  show Go _ _ _ _ _ _ _ T2 (mkF m 14 #[.val (.ref a), .val (.int (Int32.ofNat X))] [(.long (1 : Int64)), (.long wr), (.ref a)])
  refine Go.step (fun tt kk => XS.iloadN X2.here hx rfl (hb hby d12_14) rfl kk) ?_
  show Go _ _ _ _ _ _ _ T2 (mkF m 15 #[.val (.ref a), .val (.int (Int32.ofNat X))] [(.int (Int32.ofNat X)), (.long (1 : Int64)), (.long wr), (.ref a)])
  refine Go.step (fun tt kk => XS.lshl X2.here hx rfl (hb hby d12_15) rfl kk) ?_
  show Go _ _ _ _ _ _ _ T2 (mkF m 16 #[.val (.ref a), .val (.int (Int32.ofNat X))] [(.long ((1 : Int64) <<< ((Int32.ofNat X) &&& 0x3f).toInt64)), (.long wr), (.ref a)])
  refine Go.step (fun tt kk => XS.lor X2.here hx rfl (hb hby d12_16) rfl kk) ?_
  show Go _ _ _ _ _ _ _ T2 (mkF m 17 #[.val (.ref a), .val (.int (Int32.ofNat X))] [(.long (wr ||| ((1 : Int64) <<< ((Int32.ofNat X) &&& 0x3f).toInt64))), (.ref a)])
  obtain ⟨T3, h3, X3, e3, W3, st3⟩ := putF X2 hx hZ hown (host := "") (Or.inl (hw _ (List.mem_of_getElem? (i := 88) rfl))) Via.refl e2 F_9 E_a (Or.inl (hw _ (List.mem_of_getElem? (i := 89) rfl))) (hw _ (List.mem_of_getElem? (i := 2) rfl)) (ty := .long) (by decide) rfl rfl (g := (mkF m 17 #[.val (.ref a), .val (.int (Int32.ofNat X))] [(.long (wr ||| ((1 : Int64) <<< ((Int32.ofNat X) &&& 0x3f).toInt64))), (.ref a)])) rfl rfl (hb hby d12_17)
  have F3 := Fld.same W3 F_9
  have N3 := Fr.snoc X3 N0 g_a
  have Z3 : n0 ≤ h3.size := Nat.le_trans Z0 (Keep.of_wr W3).1
  have K3 : Keep hI h3 [a] := K0.wr W3 (Or.inl (List.mem_of_getElem? (i := 0) rfl))
  refine Go.step (st3) ?_
  show Go _ _ _ _ _ _ _ T3 (mkF m 20 #[.val (.ref a), .val (.int (Int32.ofNat X))] [])
  refine Go.step (fun tt kk => XS.goto X3.here hx rfl (pc0 := 20) (pc' := 40) rfl (hb hby d12_20) (by decide) (by decide) kk) ?_
  show Go _ _ _ _ _ _ _ T3 (mkF m 40 #[.val (.ref a), .val (.int (Int32.ofNat X))] [])
  have f4 := (Exa.wr W3 E_a)
  have f5 := (Fld.other W3 F_0 (Or.inr (slot_ne (Or.inr (hw _ (List.mem_of_getElem? (i := 16) rfl))) (Or.inl (hw _ (List.mem_of_getElem? (i := 89) rfl))) (by decide) (t := .int) (t' := .long) (by decide) (by decide))))
  have f6 := (Fld.other W3 F_1 (Or.inr (slot_ne (Or.inr (hw _ (List.mem_of_getElem? (i := 18) rfl))) (Or.inl (hw _ (List.mem_of_getElem? (i := 89) rfl))) (by decide) (t := .int) (t' := .long) (by decide) (by decide))))
  have f7 := (Fld.other W3 F_2 (Or.inr (slot_ne (Or.inl (hw _ (List.mem_of_getElem? (i := 74) rfl))) (Or.inl (hw _ (List.mem_of_getElem? (i := 89) rfl))) (by decide) (t := .long) (t' := .long) (by decide) (by decide))))
  have f8 := (Fld.other W3 F_3 (Or.inr (slot_ne (Or.inl (hw _ (List.mem_of_getElem? (i := 76) rfl))) (Or.inl (hw _ (List.mem_of_getElem? (i := 89) rfl))) (by decide) (t := .int) (t' := .long) (by decide) (by decide))))
  have f9 := (Fld.other W3 F_4 (Or.inr (slot_ne (Or.inl (hw _ (List.mem_of_getElem? (i := 83) rfl))) (Or.inl (hw _ (List.mem_of_getElem? (i := 89) rfl))) (by decide) (t := (.object "com/example/gridwright/gridwright/engine/Grid")) (t' := .long) (by decide) (by decide))))
  have f10 := (Fld.other W3 F_5 (Or.inr (slot_ne (Or.inr (hw _ (List.mem_of_getElem? (i := 21) rfl))) (Or.inl (hw _ (List.mem_of_getElem? (i := 89) rfl))) (by decide) (t := (.array .long)) (t' := .long) (by decide) (by decide))))
  have f11 := (Fld.other W3 F_6 (Or.inr (slot_ne (Or.inr (hw _ (List.mem_of_getElem? (i := 23) rfl))) (Or.inl (hw _ (List.mem_of_getElem? (i := 89) rfl))) (by decide) (t := (.array .long)) (t' := .long) (by decide) (by decide))))
  have f12 := (Fld.other W3 F_7 (Or.inr (slot_ne (Or.inl (hw _ (List.mem_of_getElem? (i := 85) rfl))) (Or.inl (hw _ (List.mem_of_getElem? (i := 89) rfl))) (by decide) (t := .long) (t' := .long) (by decide) (by decide))))
  have f13 := (Fld.other W3 F_8 (Or.inr (slot_ne (Or.inl (hw _ (List.mem_of_getElem? (i := 87) rfl))) (Or.inl (hw _ (List.mem_of_getElem? (i := 89) rfl))) (by decide) (t := .long) (t' := .long) (by decide) (by decide))))
  have f14 := (Fld.other W3 F_10 (Or.inr (slot_ne (Or.inl (hw _ (List.mem_of_getElem? (i := 91) rfl))) (Or.inl (hw _ (List.mem_of_getElem? (i := 89) rfl))) (by decide) (t := .long) (t' := .long) (by decide) (by decide))))
  have f15 := (Fld.other W3 F_11 (Or.inr (slot_ne (Or.inl (hw _ (List.mem_of_getElem? (i := 93) rfl))) (Or.inl (hw _ (List.mem_of_getElem? (i := 89) rfl))) (by decide) (t := .boolean) (t' := .long) (by decide) (by decide))))
  refine go_ret X3 hx hret hlk (hb hby d12_40) ?_ (by decide) (by decide)
  try rw [e3]
  exact ⟨rfl, N3, eI ▸ K3, f4, f5, f6, f7, f8, f9, f10, f11, f12, f13, F3, f14, f15⟩
theorem ef_rmAc (m : MethodId) (x0 : Addr) (x1 : Int32) : entryFrame m #[(.ref x0), (.int x1)] 2 = mkF m 0 #[.val (.ref x0), .val (.int x1)] [] := by first | (simp [entryFrame, mkF, argsToLocals, Value.category]; done) | rfl
theorem d12_23 : decode prog_84_method_6_code 23 = .ok (.aload_n 0, 1) := by decide +kernel
theorem d12_24 : decode prog_84_method_6_code 24 = .ok (.dup, 1) := by decide +kernel
theorem d12_25 : decode prog_84_method_6_code 25 = .ok (.getfield 53, 3) := by decide +kernel
theorem d12_28 : decode prog_84_method_6_code 28 = .ok (.lconst 1, 1) := by decide +kernel
theorem d12_29 : decode prog_84_method_6_code 29 = .ok (.iload_n 1, 1) := by decide +kernel
theorem d12_30 : decode prog_84_method_6_code 30 = .ok (.aload_n 0, 1) := by decide +kernel
theorem d12_31 : decode prog_84_method_6_code 31 = .ok (.getfield 46, 3) := by decide +kernel
theorem d12_34 : decode prog_84_method_6_code 34 = .ok (.isub, 1) := by decide +kernel
theorem d12_35 : decode prog_84_method_6_code 35 = .ok (.lshl, 1) := by decide +kernel
theorem d12_36 : decode prog_84_method_6_code 36 = .ok (.lor, 1) := by decide +kernel
theorem d12_37 : decode prog_84_method_6_code 37 = .ok (.putfield 53, 3) := by decide +kernel
set_option maxRecDepth 65536 in
set_option maxHeartbeats 40000000 in
theorem rmAc (l : Launch) (Z : State) (a0 : Array Value) (hw : ∀ d ∈ tables_1, d.before a0 Z = true) (ws : List Jvm.Cond) (a : Addr) (X : Nat) (W H : Nat) (tk : Int64) (dc : Int32) (gv fv ev : Value) (wr wc : Int64) (rw0 : Int32) (h0 : Heap) (n0 : Nat) (Z0 : n0 ≤ h0.size) (E_a : Exa Z h0 a "com/example/gridwright/gridwright/engine/SmallDraft") (F_0 : Fld Z h0 a "com/example/gridwright/gridwright/engine/Draft" "width" "I" (.int (Int32.ofNat W))) (F_1 : Fld Z h0 a "com/example/gridwright/gridwright/engine/Draft" "height" "I" (.int (Int32.ofNat H))) (F_2 : Fld Z h0 a "com/example/gridwright/gridwright/engine/Draft" "taken" "J" (.long tk)) (F_3 : Fld Z h0 a "com/example/gridwright/gridwright/engine/Draft" "decided" "I" (.int dc)) (F_4 : Fld Z h0 a "com/example/gridwright/gridwright/engine/SmallDraft" "grid" "Lcom/example/gridwright/gridwright/engine/Grid;" gv) (F_5 : Fld Z h0 a "com/example/gridwright/gridwright/engine/SmallDraft" "filled" "[J" fv) (F_6 : Fld Z h0 a "com/example/gridwright/gridwright/engine/SmallDraft" "empty" "[J" ev) (F_7 : Fld Z h0 a "com/example/gridwright/gridwright/engine/SmallDraft" "changedRows" "J" (.long (0 : Int64))) (F_8 : Fld Z h0 a "com/example/gridwright/gridwright/engine/SmallDraft" "changedColumns" "J" (.long (0 : Int64))) (F_9 : Fld Z h0 a "com/example/gridwright/gridwright/engine/SmallDraft" "waitingRows" "J" (.long wr)) (F_10 : Fld Z h0 a "com/example/gridwright/gridwright/engine/SmallDraft" "waitingColumns" "J" (.long wc)) (F_11 : Fld Z h0 a "com/example/gridwright/gridwright/engine/SmallDraft" "rows" "Z" (.int rw0)) (g_a : n0 ≤ a) (hX0 : X < 1000) (hH9 : H < 1000) (hX : ¬ X < H) :
    Ctr l Z (⟨"com/example/gridwright/gridwright/engine/SmallDraft", "await", "(I)V"⟩ : MethodName) prog_84_method_6_code 2 none ws ({ frames := 0, cells := 0, slots := 0, locals := 0 } : Room) 0 0 #[(.ref a), (.int (Int32.ofNat X))] h0 (fun v h L => v = none ∧ Fr n0 L ∧ Keep h0 h [a] ∧ Exa Z h a "com/example/gridwright/gridwright/engine/SmallDraft" ∧ Fld Z h a "com/example/gridwright/gridwright/engine/Draft" "width" "I" (.int (Int32.ofNat W)) ∧ Fld Z h a "com/example/gridwright/gridwright/engine/Draft" "height" "I" (.int (Int32.ofNat H)) ∧ Fld Z h a "com/example/gridwright/gridwright/engine/Draft" "taken" "J" (.long tk) ∧ Fld Z h a "com/example/gridwright/gridwright/engine/Draft" "decided" "I" (.int dc) ∧ Fld Z h a "com/example/gridwright/gridwright/engine/SmallDraft" "grid" "Lcom/example/gridwright/gridwright/engine/Grid;" gv ∧ Fld Z h a "com/example/gridwright/gridwright/engine/SmallDraft" "filled" "[J" fv ∧ Fld Z h a "com/example/gridwright/gridwright/engine/SmallDraft" "empty" "[J" ev ∧ Fld Z h a "com/example/gridwright/gridwright/engine/SmallDraft" "changedRows" "J" (.long (0 : Int64)) ∧ Fld Z h a "com/example/gridwright/gridwright/engine/SmallDraft" "changedColumns" "J" (.long (0 : Int64)) ∧ Fld Z h a "com/example/gridwright/gridwright/engine/SmallDraft" "waitingRows" "J" (.long wr) ∧ Fld Z h a "com/example/gridwright/gridwright/engine/SmallDraft" "waitingColumns" "J" (.long (wc ||| (sh (Int32.ofNat (X - H))))) ∧ Fld Z h a "com/example/gridwright/gridwright/engine/SmallDraft" "rows" "Z" (.int rw0)) := by
  refine Ctr.mk (plainFor_of_name pn_4) fun p e s m below meth c T0 X0 C e0 => go_cast (ef_rmAc m a (Int32.ofNat X)) ?_
  have N0 := Fr.nil n0
  obtain ⟨hx, hZ, hby, hml, hown, hnm, hret, hlk⟩ := C
  obtain ⟨hI, eI⟩ : ∃ z, z = h0 := ⟨_, rfl⟩
  have K0 : Keep hI h0 [a] := by rw [eI]; exact Keep.refl _ _
  show Go _ _ _ _ _ _ _ T0 (mkF m 0 #[.val (.ref a), .val (.int (Int32.ofNat X))] [])
  refine Go.step (fun tt kk => XS.iloadN X0.here hx rfl (hb hby d12_0) rfl kk) ?_
  show Go _ _ _ _ _ _ _ T0 (mkF m 1 #[.val (.ref a), .val (.int (Int32.ofNat X))] [(.int (Int32.ofNat X))])
  refine Go.step (fun tt kk => XS.aloadN X0.here hx rfl (hb hby d12_1) rfl rfl kk) ?_
  show Go _ _ _ _ _ _ _ T0 (mkF m 2 #[.val (.ref a), .val (.int (Int32.ofNat X))] [(.ref a), (.int (Int32.ofNat X))])
  obtain ⟨T1, X1, e1, st1⟩ := getF X0 hx hZ hown (host := "") (Or.inl (hw _ (List.mem_of_getElem? (i := 99) rfl))) (Via.of (hw _ (List.mem_of_getElem? (i := 100) rfl))) e0 F_1 (g := (mkF m 2 #[.val (.ref a), .val (.int (Int32.ofNat X))] [(.ref a), (.int (Int32.ofNat X))])) rfl rfl (hb hby d12_2)
  refine Go.step (st1) ?_
  show Go _ _ _ _ _ _ _ T1 (mkF m 5 #[.val (.ref a), .val (.int (Int32.ofNat X))] [(.int (Int32.ofNat H)), (.int (Int32.ofNat X))])
  refine Go.step (fun tt kk => XS.icmpYes X1.here hx rfl (pc0 := 5) (pc' := 23) rfl (hb hby d12_5) rfl (flt (mt (own_lt X H (by omega) (by omega)).mp hX)).2.1 (by decide) (by decide) kk) ?_
  show Go _ _ _ _ _ _ _ T1 (mkF m 23 #[.val (.ref a), .val (.int (Int32.ofNat X))] [])
  refine Go.step (fun tt kk => XS.aloadN X1.here hx rfl (hb hby d12_23) rfl rfl kk) ?_
  show Go _ _ _ _ _ _ _ T1 (mkF m 24 #[.val (.ref a), .val (.int (Int32.ofNat X))] [(.ref a)])
  refine Go.step (fun tt kk => XS.dup X1.here hx rfl (hb hby d12_24) rfl rfl kk) ?_
  show Go _ _ _ _ _ _ _ T1 (mkF m 25 #[.val (.ref a), .val (.int (Int32.ofNat X))] [(.ref a), (.ref a)])
  obtain ⟨T2, X2, e2, st2⟩ := getF X1 hx hZ hown (host := "") (Or.inl (hw _ (List.mem_of_getElem? (i := 90) rfl))) Via.refl e1 F_10 (g := (mkF m 25 #[.val (.ref a), .val (.int (Int32.ofNat X))] [(.ref a), (.ref a)])) rfl rfl (hb hby d12_25)
  refine Go.step (st2) ?_
  show Go _ _ _ _ _ _ _ T2 (mkF m 28 #[.val (.ref a), .val (.int (Int32.ofNat X))] [(.long wc), (.ref a)])
  refine Go.step (fun tt kk => XS.lconst X2.here hx rfl (hb hby d12_28) kk) ?_
  show Go _ _ _ _ _ _ _ T2 (mkF m 29 #[.val (.ref a), .val (.int (Int32.ofNat X))] [(.long (1 : Int64)), (.long wc), (.ref a)])
  refine Go.step (fun tt kk => XS.iloadN X2.here hx rfl (hb hby d12_29) rfl kk) ?_
  show Go _ _ _ _ _ _ _ T2 (mkF m 30 #[.val (.ref a), .val (.int (Int32.ofNat X))] [(.int (Int32.ofNat X)), (.long (1 : Int64)), (.long wc), (.ref a)])
  refine Go.step (fun tt kk => XS.aloadN X2.here hx rfl (hb hby d12_30) rfl rfl kk) ?_
  show Go _ _ _ _ _ _ _ T2 (mkF m 31 #[.val (.ref a), .val (.int (Int32.ofNat X))] [(.ref a), (.int (Int32.ofNat X)), (.long (1 : Int64)), (.long wc), (.ref a)])
  obtain ⟨T3, X3, e3, st3⟩ := getF X2 hx hZ hown (host := "") (Or.inl (hw _ (List.mem_of_getElem? (i := 99) rfl))) (Via.of (hw _ (List.mem_of_getElem? (i := 100) rfl))) e2 F_1 (g := (mkF m 31 #[.val (.ref a), .val (.int (Int32.ofNat X))] [(.ref a), (.int (Int32.ofNat X)), (.long (1 : Int64)), (.long wc), (.ref a)])) rfl rfl (hb hby d12_31)
  refine Go.step (st3) ?_
  show Go _ _ _ _ _ _ _ T3 (mkF m 34 #[.val (.ref a), .val (.int (Int32.ofNat X))] [(.int (Int32.ofNat H)), (.int (Int32.ofNat X)), (.long (1 : Int64)), (.long wc), (.ref a)])
  refine Go.step (fun tt kk => XS.isub X3.here hx rfl (hb hby d12_34) rfl kk) ?_
  show Go _ _ _ _ _ _ _ T3 (mkF m 35 #[.val (.ref a), .val (.int (Int32.ofNat X))] [(.int ((Int32.ofNat X) - (Int32.ofNat H))), (.long (1 : Int64)), (.long wc), (.ref a)])
  rw [own_sub X H (by omega) (by omega)]
  show Go _ _ _ _ _ _ _ T3 (mkF m 35 #[.val (.ref a), .val (.int (Int32.ofNat X))] [(.int (Int32.ofNat (X - H))), (.long (1 : Int64)), (.long wc), (.ref a)])
  refine Go.step (fun tt kk => XS.lshl X3.here hx rfl (hb hby d12_35) rfl kk) ?_
  show Go _ _ _ _ _ _ _ T3 (mkF m 36 #[.val (.ref a), .val (.int (Int32.ofNat X))] [(.long ((1 : Int64) <<< ((Int32.ofNat (X - H)) &&& 0x3f).toInt64)), (.long wc), (.ref a)])
  refine Go.step (fun tt kk => XS.lor X3.here hx rfl (hb hby d12_36) rfl kk) ?_
  show Go _ _ _ _ _ _ _ T3 (mkF m 37 #[.val (.ref a), .val (.int (Int32.ofNat X))] [(.long (wc ||| ((1 : Int64) <<< ((Int32.ofNat (X - H)) &&& 0x3f).toInt64))), (.ref a)])
  obtain ⟨T4, h4, X4, e4, W4, st4⟩ := putF X3 hx hZ hown (host := "") (Or.inl (hw _ (List.mem_of_getElem? (i := 90) rfl))) Via.refl e3 F_10 E_a (Or.inl (hw _ (List.mem_of_getElem? (i := 91) rfl))) (hw _ (List.mem_of_getElem? (i := 2) rfl)) (ty := .long) (by decide) rfl rfl (g := (mkF m 37 #[.val (.ref a), .val (.int (Int32.ofNat X))] [(.long (wc ||| ((1 : Int64) <<< ((Int32.ofNat (X - H)) &&& 0x3f).toInt64))), (.ref a)])) rfl rfl (hb hby d12_37)
  have F4 := Fld.same W4 F_10
  have N4 := Fr.snoc X4 N0 g_a
  have Z4 : n0 ≤ h4.size := Nat.le_trans Z0 (Keep.of_wr W4).1
  have K4 : Keep hI h4 [a] := K0.wr W4 (Or.inl (List.mem_of_getElem? (i := 0) rfl))
  refine Go.step (st4) ?_
  show Go _ _ _ _ _ _ _ T4 (mkF m 40 #[.val (.ref a), .val (.int (Int32.ofNat X))] [])
  have f5 := (Exa.wr W4 E_a)
  have f6 := (Fld.other W4 F_0 (Or.inr (slot_ne (Or.inr (hw _ (List.mem_of_getElem? (i := 16) rfl))) (Or.inl (hw _ (List.mem_of_getElem? (i := 91) rfl))) (by decide) (t := .int) (t' := .long) (by decide) (by decide))))
  have f7 := (Fld.other W4 F_1 (Or.inr (slot_ne (Or.inr (hw _ (List.mem_of_getElem? (i := 18) rfl))) (Or.inl (hw _ (List.mem_of_getElem? (i := 91) rfl))) (by decide) (t := .int) (t' := .long) (by decide) (by decide))))
  have f8 := (Fld.other W4 F_2 (Or.inr (slot_ne (Or.inl (hw _ (List.mem_of_getElem? (i := 74) rfl))) (Or.inl (hw _ (List.mem_of_getElem? (i := 91) rfl))) (by decide) (t := .long) (t' := .long) (by decide) (by decide))))
  have f9 := (Fld.other W4 F_3 (Or.inr (slot_ne (Or.inl (hw _ (List.mem_of_getElem? (i := 76) rfl))) (Or.inl (hw _ (List.mem_of_getElem? (i := 91) rfl))) (by decide) (t := .int) (t' := .long) (by decide) (by decide))))
  have f10 := (Fld.other W4 F_4 (Or.inr (slot_ne (Or.inl (hw _ (List.mem_of_getElem? (i := 83) rfl))) (Or.inl (hw _ (List.mem_of_getElem? (i := 91) rfl))) (by decide) (t := (.object "com/example/gridwright/gridwright/engine/Grid")) (t' := .long) (by decide) (by decide))))
  have f11 := (Fld.other W4 F_5 (Or.inr (slot_ne (Or.inr (hw _ (List.mem_of_getElem? (i := 21) rfl))) (Or.inl (hw _ (List.mem_of_getElem? (i := 91) rfl))) (by decide) (t := (.array .long)) (t' := .long) (by decide) (by decide))))
  have f12 := (Fld.other W4 F_6 (Or.inr (slot_ne (Or.inr (hw _ (List.mem_of_getElem? (i := 23) rfl))) (Or.inl (hw _ (List.mem_of_getElem? (i := 91) rfl))) (by decide) (t := (.array .long)) (t' := .long) (by decide) (by decide))))
  have f13 := (Fld.other W4 F_7 (Or.inr (slot_ne (Or.inl (hw _ (List.mem_of_getElem? (i := 85) rfl))) (Or.inl (hw _ (List.mem_of_getElem? (i := 91) rfl))) (by decide) (t := .long) (t' := .long) (by decide) (by decide))))
  have f14 := (Fld.other W4 F_8 (Or.inr (slot_ne (Or.inl (hw _ (List.mem_of_getElem? (i := 87) rfl))) (Or.inl (hw _ (List.mem_of_getElem? (i := 91) rfl))) (by decide) (t := .long) (t' := .long) (by decide) (by decide))))
  have f15 := (Fld.other W4 F_9 (Or.inr (slot_ne (Or.inl (hw _ (List.mem_of_getElem? (i := 89) rfl))) (Or.inl (hw _ (List.mem_of_getElem? (i := 91) rfl))) (by decide) (t := .long) (t' := .long) (by decide) (by decide))))
  have f16 := (Fld.other W4 F_11 (Or.inr (slot_ne (Or.inl (hw _ (List.mem_of_getElem? (i := 93) rfl))) (Or.inl (hw _ (List.mem_of_getElem? (i := 91) rfl))) (by decide) (t := .boolean) (t' := .long) (by decide) (by decide))))
  refine go_ret X4 hx hret hlk (hb hby d12_40) ?_ (by decide) (by decide)
  try rw [e4]
  exact ⟨rfl, N4, eI ▸ K4, f5, f6, f7, f8, f9, f10, f11, f12, f13, f14, f15, F4, f16⟩
theorem ef_rmNr (m : MethodId) (x0 : Addr) : entryFrame m #[(.ref x0)] 2 = mkF m 0 #[.val (.ref x0), .unset] [] := by first | (simp [entryFrame, mkF, argsToLocals, Value.category]; done) | rfl
theorem d13_0 : decode prog_84_method_7_code 0 = .ok (.aload_n 0, 1) := by decide +kernel
theorem d13_1 : decode prog_84_method_7_code 1 = .ok (.getfield 56, 3) := by decide +kernel
theorem d13_4 : decode prog_84_method_7_code 4 = .ok (.ifCond .eq 15, 3) := by decide +kernel
theorem d13_7 : decode prog_84_method_7_code 7 = .ok (.aload_n 0, 1) := by decide +kernel
theorem d13_8 : decode prog_84_method_7_code 8 = .ok (.getfield 50, 3) := by decide +kernel
theorem d13_11 : decode prog_84_method_7_code 11 = .ok (.lconst 0, 1) := by decide +kernel
theorem d13_12 : decode prog_84_method_7_code 12 = .ok (.lcmp, 1) := by decide +kernel
theorem d13_13 : decode prog_84_method_7_code 13 = .ok (.ifCond .ne 31, 3) := by decide +kernel
theorem d13_44 : decode prog_84_method_7_code 44 = .ok (.iconst (-1), 1) := by decide +kernel
theorem d13_45 : decode prog_84_method_7_code 45 = .ok (.istore_n 1, 1) := by decide +kernel
theorem d13_46 : decode prog_84_method_7_code 46 = .ok (.aload_n 0, 1) := by decide +kernel
theorem d13_47 : decode prog_84_method_7_code 47 = .ok (.getfield 56, 3) := by decide +kernel
theorem d13_50 : decode prog_84_method_7_code 50 = .ok (.ifCond .eq 50, 3) := by decide +kernel
theorem d13_53 : decode prog_84_method_7_code 53 = .ok (.aload_n 0, 1) := by decide +kernel
theorem d13_54 : decode prog_84_method_7_code 54 = .ok (.getfield 50, 3) := by decide +kernel
theorem d13_57 : decode prog_84_method_7_code 57 = .ok (.lconst 0, 1) := by decide +kernel
theorem d13_58 : decode prog_84_method_7_code 58 = .ok (.lcmp, 1) := by decide +kernel
theorem d13_59 : decode prog_84_method_7_code 59 = .ok (.ifCond .eq 41, 3) := by decide +kernel
theorem d13_62 : decode prog_84_method_7_code 62 = .ok (.aload_n 0, 1) := by decide +kernel
theorem d13_63 : decode prog_84_method_7_code 63 = .ok (.getfield 50, 3) := by decide +kernel
theorem pd_5 : parseMethodDescriptor "(J)I" = some ⟨[.long], some .int⟩ := by decide +kernel
theorem d13_66 : decode prog_84_method_7_code 66 = .ok (.invokestatic 33, 3) := by decide +kernel
theorem d13_69 : decode prog_84_method_7_code 69 = .ok (.istore_n 1, 1) := by decide +kernel
theorem d13_70 : decode prog_84_method_7_code 70 = .ok (.aload_n 0, 1) := by decide +kernel
theorem d13_71 : decode prog_84_method_7_code 71 = .ok (.dup, 1) := by decide +kernel
theorem d13_72 : decode prog_84_method_7_code 72 = .ok (.getfield 50, 3) := by decide +kernel
theorem d13_75 : decode prog_84_method_7_code 75 = .ok (.aload_n 0, 1) := by decide +kernel
theorem d13_76 : decode prog_84_method_7_code 76 = .ok (.getfield 50, 3) := by decide +kernel
theorem d13_79 : decode prog_84_method_7_code 79 = .ok (.lconst 1, 1) := by decide +kernel
theorem d13_80 : decode prog_84_method_7_code 80 = .ok (.lsub, 1) := by decide +kernel
theorem d13_81 : decode prog_84_method_7_code 81 = .ok (.land, 1) := by decide +kernel
theorem d13_82 : decode prog_84_method_7_code 82 = .ok (.putfield 50, 3) := by decide +kernel
theorem d13_85 : decode prog_84_method_7_code 85 = .ok (.aload_n 0, 1) := by decide +kernel
theorem d13_86 : decode prog_84_method_7_code 86 = .ok (.dup, 1) := by decide +kernel
theorem d13_87 : decode prog_84_method_7_code 87 = .ok (.getfield 81, 3) := by decide +kernel
theorem d13_90 : decode prog_84_method_7_code 90 = .ok (.lconst 1, 1) := by decide +kernel
theorem d13_91 : decode prog_84_method_7_code 91 = .ok (.iload_n 1, 1) := by decide +kernel
theorem d13_92 : decode prog_84_method_7_code 92 = .ok (.lshl, 1) := by decide +kernel
theorem d13_93 : decode prog_84_method_7_code 93 = .ok (.lor, 1) := by decide +kernel
theorem d13_94 : decode prog_84_method_7_code 94 = .ok (.putfield 81, 3) := by decide +kernel
theorem d13_97 : decode prog_84_method_7_code 97 = .ok (.goto 59, 3) := by decide +kernel
theorem d13_156 : decode prog_84_method_7_code 156 = .ok (.iload_n 1, 1) := by decide +kernel
theorem d13_157 : decode prog_84_method_7_code 157 = .ok (.ireturn, 1) := by decide +kernel
theorem d13_19 : decode prog_84_method_7_code 19 = .ok (.aload_n 0, 1) := by decide +kernel
theorem d13_20 : decode prog_84_method_7_code 20 = .ok (.getfield 53, 3) := by decide +kernel
theorem d13_23 : decode prog_84_method_7_code 23 = .ok (.lconst 0, 1) := by decide +kernel
theorem d13_24 : decode prog_84_method_7_code 24 = .ok (.lcmp, 1) := by decide +kernel
theorem d13_25 : decode prog_84_method_7_code 25 = .ok (.ifCond .ne 19, 3) := by decide +kernel
theorem d13_28 : decode prog_84_method_7_code 28 = .ok (.aload_n 0, 1) := by decide +kernel
theorem d13_29 : decode prog_84_method_7_code 29 = .ok (.aload_n 0, 1) := by decide +kernel
theorem d13_30 : decode prog_84_method_7_code 30 = .ok (.getfield 56, 3) := by decide +kernel
theorem d13_33 : decode prog_84_method_7_code 33 = .ok (.ifCond .ne 7, 3) := by decide +kernel
theorem d13_36 : decode prog_84_method_7_code 36 = .ok (.iconst 1, 1) := by decide +kernel
theorem d13_37 : decode prog_84_method_7_code 37 = .ok (.goto 4, 3) := by decide +kernel
theorem d13_41 : decode prog_84_method_7_code 41 = .ok (.putfield 56, 3) := by decide +kernel
set_option maxRecDepth 65536 in
set_option maxHeartbeats 40000000 in
theorem rmNr (l : Launch) (Z : State) (a0 : Array Value) (hw : ∀ d ∈ tables_1, d.before a0 Z = true) (ws : List Jvm.Cond) (a : Addr) (W H : Nat) (tk : Int64) (dc : Int32) (gv fv ev : Value) (wr wc : Int64) (rb : Bool) (h0 : Heap) (n0 : Nat) (Z0 : n0 ≤ h0.size) (E_a : Exa Z h0 a "com/example/gridwright/gridwright/engine/SmallDraft") (F_0 : Fld Z h0 a "com/example/gridwright/gridwright/engine/Draft" "width" "I" (.int (Int32.ofNat W))) (F_1 : Fld Z h0 a "com/example/gridwright/gridwright/engine/Draft" "height" "I" (.int (Int32.ofNat H))) (F_2 : Fld Z h0 a "com/example/gridwright/gridwright/engine/Draft" "taken" "J" (.long tk)) (F_3 : Fld Z h0 a "com/example/gridwright/gridwright/engine/Draft" "decided" "I" (.int dc)) (F_4 : Fld Z h0 a "com/example/gridwright/gridwright/engine/SmallDraft" "grid" "Lcom/example/gridwright/gridwright/engine/Grid;" gv) (F_5 : Fld Z h0 a "com/example/gridwright/gridwright/engine/SmallDraft" "filled" "[J" fv) (F_6 : Fld Z h0 a "com/example/gridwright/gridwright/engine/SmallDraft" "empty" "[J" ev) (F_7 : Fld Z h0 a "com/example/gridwright/gridwright/engine/SmallDraft" "changedRows" "J" (.long (0 : Int64))) (F_8 : Fld Z h0 a "com/example/gridwright/gridwright/engine/SmallDraft" "changedColumns" "J" (.long (0 : Int64))) (F_9 : Fld Z h0 a "com/example/gridwright/gridwright/engine/SmallDraft" "waitingRows" "J" (.long wr)) (F_10 : Fld Z h0 a "com/example/gridwright/gridwright/engine/SmallDraft" "waitingColumns" "J" (.long wc)) (F_11 : Fld Z h0 a "com/example/gridwright/gridwright/engine/SmallDraft" "rows" "Z" (.int (bi (rb = true)))) (g_a : n0 ≤ a) (hr : ¬ wr = 0) (hc : rb = true ∨ wc = 0) :
    Ctr l Z (⟨"com/example/gridwright/gridwright/engine/SmallDraft", "next", "()I"⟩ : MethodName) prog_84_method_7_code 2 (some .int) ws ({ frames := 2, cells := 0, slots := 0, locals := 28 } : Room) 0 0 #[(.ref a)] h0 (fun v h L => v = some (.int (ntz wr)) ∧ Fr n0 L ∧ Keep h0 h [a] ∧ Exa Z h a "com/example/gridwright/gridwright/engine/SmallDraft" ∧ Fld Z h a "com/example/gridwright/gridwright/engine/Draft" "width" "I" (.int (Int32.ofNat W)) ∧ Fld Z h a "com/example/gridwright/gridwright/engine/Draft" "height" "I" (.int (Int32.ofNat H)) ∧ Fld Z h a "com/example/gridwright/gridwright/engine/Draft" "taken" "J" (.long (tk ||| (sh (ntz wr)))) ∧ Fld Z h a "com/example/gridwright/gridwright/engine/Draft" "decided" "I" (.int dc) ∧ Fld Z h a "com/example/gridwright/gridwright/engine/SmallDraft" "grid" "Lcom/example/gridwright/gridwright/engine/Grid;" gv ∧ Fld Z h a "com/example/gridwright/gridwright/engine/SmallDraft" "filled" "[J" fv ∧ Fld Z h a "com/example/gridwright/gridwright/engine/SmallDraft" "empty" "[J" ev ∧ Fld Z h a "com/example/gridwright/gridwright/engine/SmallDraft" "changedRows" "J" (.long (0 : Int64)) ∧ Fld Z h a "com/example/gridwright/gridwright/engine/SmallDraft" "changedColumns" "J" (.long (0 : Int64)) ∧ Fld Z h a "com/example/gridwright/gridwright/engine/SmallDraft" "waitingRows" "J" (.long (wr &&& (wr - (1 : Int64)))) ∧ Fld Z h a "com/example/gridwright/gridwright/engine/SmallDraft" "waitingColumns" "J" (.long wc) ∧ Fld Z h a "com/example/gridwright/gridwright/engine/SmallDraft" "rows" "Z" (.int (bi (true = true)))) := by
  refine Ctr.mk (plainFor_of_name pn_4) fun p e s m below meth c T0 X0 C e0 => go_cast (ef_rmNr m a) ?_
  have N0 := Fr.nil n0
  obtain ⟨hx, hZ, hby, hml, hown, hnm, hret, hlk⟩ := C
  obtain ⟨hI, eI⟩ : ∃ z, z = h0 := ⟨_, rfl⟩
  have K0 : Keep hI h0 [a] := by rw [eI]; exact Keep.refl _ _
  show Go _ _ _ _ _ _ _ T0 (mkF m 0 #[.val (.ref a), .unset] [])
  refine Go.step (fun tt kk => XS.aloadN X0.here hx rfl (hb hby d13_0) rfl rfl kk) ?_
  show Go _ _ _ _ _ _ _ T0 (mkF m 1 #[.val (.ref a), .unset] [(.ref a)])
  obtain ⟨T1, X1, e1, st1⟩ := getF X0 hx hZ hown (host := "") (Or.inl (hw _ (List.mem_of_getElem? (i := 92) rfl))) Via.refl e0 F_11 (g := (mkF m 1 #[.val (.ref a), .unset] [(.ref a)])) rfl rfl (hb hby d13_1)
  refine Go.step (st1) ?_
  show Go _ _ _ _ _ _ _ T1 (mkF m 4 #[.val (.ref a), .unset] [(.int (bi (rb = true)))])
  by_cases c4_2 : rb = true
  · refine Go.step (fun tt kk => XS.ifNo X1.here hx rfl (hb hby d13_4) rfl ((if0 _ _).trans (feq (bi_n c4_2)).1) kk) ?_
    show Go _ _ _ _ _ _ _ T1 (mkF m 7 #[.val (.ref a), .unset] [])
    refine Go.step (fun tt kk => XS.aloadN X1.here hx rfl (hb hby d13_7) rfl rfl kk) ?_
    show Go _ _ _ _ _ _ _ T1 (mkF m 8 #[.val (.ref a), .unset] [(.ref a)])
    obtain ⟨T3, X3, e3, st3⟩ := getF X1 hx hZ hown (host := "") (Or.inl (hw _ (List.mem_of_getElem? (i := 88) rfl))) Via.refl e1 F_9 (g := (mkF m 8 #[.val (.ref a), .unset] [(.ref a)])) rfl rfl (hb hby d13_8)
    refine Go.step (st3) ?_
    show Go _ _ _ _ _ _ _ T3 (mkF m 11 #[.val (.ref a), .unset] [(.long wr)])
    refine Go.step (fun tt kk => XS.lconst X3.here hx rfl (hb hby d13_11) kk) ?_
    show Go _ _ _ _ _ _ _ T3 (mkF m 12 #[.val (.ref a), .unset] [(.long (0 : Int64)), (.long wr)])
    refine Go.step (fun tt kk => XS.lcmp X3.here hx rfl (hb hby d13_12) rfl kk) ?_
    show Go _ _ _ _ _ _ _ T3 (mkF m 13 #[.val (.ref a), .unset] [(.int (lcmpW wr (0 : Int64)))])
    refine Go.step (fun tt kk => XS.ifYes X3.here hx rfl (pc0 := 13) (pc' := 44) rfl (hb hby d13_13) rfl ((if0 _ _).trans (feq (fun q => hr ((lw_eq _ _).mp q))).2) (by decide) (by decide) kk) ?_
    show Go _ _ _ _ _ _ _ T3 (mkF m 44 #[.val (.ref a), .unset] [])
    refine Go.step (fun tt kk => XS.iconst X3.here hx rfl (hb hby d13_44) kk) ?_
    show Go _ _ _ _ _ _ _ T3 (mkF m 45 #[.val (.ref a), .unset] [(.int (-1 : Int32))])
    refine Go.step (fun tt kk => XS.istoreN X3.here hx rfl (hb hby d13_45) rfl (l' := #[.val (.ref a), .val (.int (-1 : Int32))]) rfl kk) ?_
    show Go _ _ _ _ _ _ _ T3 (mkF m 46 #[.val (.ref a), .val (.int (-1 : Int32))] [])
    refine Go.step (fun tt kk => XS.aloadN X3.here hx rfl (hb hby d13_46) rfl rfl kk) ?_
    show Go _ _ _ _ _ _ _ T3 (mkF m 47 #[.val (.ref a), .val (.int (-1 : Int32))] [(.ref a)])
    obtain ⟨T4, X4, e4, st4⟩ := getF X3 hx hZ hown (host := "") (Or.inl (hw _ (List.mem_of_getElem? (i := 92) rfl))) Via.refl e3 F_11 (g := (mkF m 47 #[.val (.ref a), .val (.int (-1 : Int32))] [(.ref a)])) rfl rfl (hb hby d13_47)
    refine Go.step (st4) ?_
    show Go _ _ _ _ _ _ _ T4 (mkF m 50 #[.val (.ref a), .val (.int (-1 : Int32))] [(.int (bi (rb = true)))])
    refine Go.step (fun tt kk => XS.ifNo X4.here hx rfl (hb hby d13_50) rfl ((if0 _ _).trans (feq (bi_n c4_2)).1) kk) ?_
    show Go _ _ _ _ _ _ _ T4 (mkF m 53 #[.val (.ref a), .val (.int (-1 : Int32))] [])
    refine Go.step (fun tt kk => XS.aloadN X4.here hx rfl (hb hby d13_53) rfl rfl kk) ?_
    show Go _ _ _ _ _ _ _ T4 (mkF m 54 #[.val (.ref a), .val (.int (-1 : Int32))] [(.ref a)])
    obtain ⟨T5, X5, e5, st5⟩ := getF X4 hx hZ hown (host := "") (Or.inl (hw _ (List.mem_of_getElem? (i := 88) rfl))) Via.refl e4 F_9 (g := (mkF m 54 #[.val (.ref a), .val (.int (-1 : Int32))] [(.ref a)])) rfl rfl (hb hby d13_54)
    refine Go.step (st5) ?_
    show Go _ _ _ _ _ _ _ T5 (mkF m 57 #[.val (.ref a), .val (.int (-1 : Int32))] [(.long wr)])
    refine Go.step (fun tt kk => XS.lconst X5.here hx rfl (hb hby d13_57) kk) ?_
    show Go _ _ _ _ _ _ _ T5 (mkF m 58 #[.val (.ref a), .val (.int (-1 : Int32))] [(.long (0 : Int64)), (.long wr)])
    refine Go.step (fun tt kk => XS.lcmp X5.here hx rfl (hb hby d13_58) rfl kk) ?_
    show Go _ _ _ _ _ _ _ T5 (mkF m 59 #[.val (.ref a), .val (.int (-1 : Int32))] [(.int (lcmpW wr (0 : Int64)))])
    refine Go.step (fun tt kk => XS.ifNo X5.here hx rfl (hb hby d13_59) rfl ((if0 _ _).trans (feq (fun q => hr ((lw_eq _ _).mp q))).1) kk) ?_
    show Go _ _ _ _ _ _ _ T5 (mkF m 62 #[.val (.ref a), .val (.int (-1 : Int32))] [])
    refine Go.step (fun tt kk => XS.aloadN X5.here hx rfl (hb hby d13_62) rfl rfl kk) ?_
    show Go _ _ _ _ _ _ _ T5 (mkF m 63 #[.val (.ref a), .val (.int (-1 : Int32))] [(.ref a)])
    obtain ⟨T6, X6, e6, st6⟩ := getF X5 hx hZ hown (host := "") (Or.inl (hw _ (List.mem_of_getElem? (i := 88) rfl))) Via.refl e5 F_9 (g := (mkF m 63 #[.val (.ref a), .val (.int (-1 : Int32))] [(.ref a)])) rfl rfl (hb hby d13_63)
    refine Go.step (st6) ?_
    show Go _ _ _ _ _ _ _ T6 (mkF m 66 #[.val (.ref a), .val (.int (-1 : Int32))] [(.long wr)])
    obtain ⟨v7, T7, L7, X7, q7, st7⟩ := c_static X6 hx hZ hown (y := (⟨"java/lang/Long", "numberOfTrailingZeros", "(J)I"⟩ : MethodName)) (hw _ (List.mem_of_getElem? (i := 106) rfl)) (hw _ (List.mem_of_getElem? (i := 107) rfl)) (hw _ (List.mem_of_getElem? (i := 108) rfl)) (hw _ (List.mem_of_getElem? (i := 109) rfl)) (by decide) (argsL := [(.long wr)]) (rest := []) (rmtl l Z a0 hw [] wr h0 n0 Z0) e6 pd_5 rfl (by rw [hml]; rfl) (W := 0) (by show 2 * 0 + _ ≤ _; exact Nat.le_of_eq rfl) (by decide) (by decide) (by decide) (by decide) (hb hby d13_66) (Ls := #[.val (.ref a), .val (.int (-1 : Int32))])
    obtain ⟨rfl, rfl, e7⟩ := q7
    have N7 := Fr.app N0 (Fr.nil n0)
    refine Go.step (st7) ?_
    show Go _ _ _ _ _ _ _ T7 (mkF m 69 #[.val (.ref a), .val (.int (-1 : Int32))] [(.int (ntz wr))])
    refine Go.step (fun tt kk => XS.istoreN X7.here hx rfl (hb hby d13_69) rfl (l' := #[.val (.ref a), .val (.int (ntz wr))]) rfl kk) ?_
    show Go _ _ _ _ _ _ _ T7 (mkF m 70 #[.val (.ref a), .val (.int (ntz wr))] [])
    refine Go.step (fun tt kk => XS.aloadN X7.here hx rfl (hb hby d13_70) rfl rfl kk) ?_
    show Go _ _ _ _ _ _ _ T7 (mkF m 71 #[.val (.ref a), .val (.int (ntz wr))] [(.ref a)])
    refine Go.step (fun tt kk => XS.dup X7.here hx rfl (hb hby d13_71) rfl rfl kk) ?_
    show Go _ _ _ _ _ _ _ T7 (mkF m 72 #[.val (.ref a), .val (.int (ntz wr))] [(.ref a), (.ref a)])
    obtain ⟨T8, X8, e8, st8⟩ := getF X7 hx hZ hown (host := "") (Or.inl (hw _ (List.mem_of_getElem? (i := 88) rfl))) Via.refl e7 F_9 (g := (mkF m 72 #[.val (.ref a), .val (.int (ntz wr))] [(.ref a), (.ref a)])) rfl rfl (hb hby d13_72)
    refine Go.step (st8) ?_
    show Go _ _ _ _ _ _ _ T8 (mkF m 75 #[.val (.ref a), .val (.int (ntz wr))] [(.long wr), (.ref a)])
    refine Go.step (fun tt kk => XS.aloadN X8.here hx rfl (hb hby d13_75) rfl rfl kk) ?_
    show Go _ _ _ _ _ _ _ T8 (mkF m 76 #[.val (.ref a), .val (.int (ntz wr))] [(.ref a), (.long wr), (.ref a)])
    obtain ⟨T9, X9, e9, st9⟩ := getF X8 hx hZ hown (host := "") (Or.inl (hw _ (List.mem_of_getElem? (i := 88) rfl))) Via.refl e8 F_9 (g := (mkF m 76 #[.val (.ref a), .val (.int (ntz wr))] [(.ref a), (.long wr), (.ref a)])) rfl rfl (hb hby d13_76)
    refine Go.step (st9) ?_
    show Go _ _ _ _ _ _ _ T9 (mkF m 79 #[.val (.ref a), .val (.int (ntz wr))] [(.long wr), (.long wr), (.ref a)])
    refine Go.step (fun tt kk => XS.lconst X9.here hx rfl (hb hby d13_79) kk) ?_
    show Go _ _ _ _ _ _ _ T9 (mkF m 80 #[.val (.ref a), .val (.int (ntz wr))] [(.long (1 : Int64)), (.long wr), (.long wr), (.ref a)])
    refine Go.step (fun tt kk => XS.lsub X9.here hx rfl (hb hby d13_80) rfl kk) ?_
    show Go _ _ _ _ _ _ _ T9 (mkF m 81 #[.val (.ref a), .val (.int (ntz wr))] [(.long (wr - (1 : Int64))), (.long wr), (.ref a)])
    refine Go.step (fun tt kk => XS.land X9.here hx rfl (hb hby d13_81) rfl kk) ?_
    show Go _ _ _ _ _ _ _ T9 (mkF m 82 #[.val (.ref a), .val (.int (ntz wr))] [(.long (wr &&& (wr - (1 : Int64)))), (.ref a)])
    obtain ⟨T10, h10, X10, e10, W10, st10⟩ := putF X9 hx hZ hown (host := "") (Or.inl (hw _ (List.mem_of_getElem? (i := 88) rfl))) Via.refl e9 F_9 E_a (Or.inl (hw _ (List.mem_of_getElem? (i := 89) rfl))) (hw _ (List.mem_of_getElem? (i := 2) rfl)) (ty := .long) (by decide) rfl rfl (g := (mkF m 82 #[.val (.ref a), .val (.int (ntz wr))] [(.long (wr &&& (wr - (1 : Int64)))), (.ref a)])) rfl rfl (hb hby d13_82)
    have F10 := Fld.same W10 F_9
    have N10 := Fr.snoc X10 N7 g_a
    have Z10 : n0 ≤ h10.size := Nat.le_trans Z0 (Keep.of_wr W10).1
    have K10 : Keep hI h10 [a] := K0.wr W10 (Or.inl (List.mem_of_getElem? (i := 0) rfl))
    refine Go.step (st10) ?_
    show Go _ _ _ _ _ _ _ T10 (mkF m 85 #[.val (.ref a), .val (.int (ntz wr))] [])
    refine Go.step (fun tt kk => XS.aloadN X10.here hx rfl (hb hby d13_85) rfl rfl kk) ?_
    show Go _ _ _ _ _ _ _ T10 (mkF m 86 #[.val (.ref a), .val (.int (ntz wr))] [(.ref a)])
    refine Go.step (fun tt kk => XS.dup X10.here hx rfl (hb hby d13_86) rfl rfl kk) ?_
    show Go _ _ _ _ _ _ _ T10 (mkF m 87 #[.val (.ref a), .val (.int (ntz wr))] [(.ref a), (.ref a)])
    have f12 := (Fld.other W10 F_2 (Or.inr (slot_ne (Or.inl (hw _ (List.mem_of_getElem? (i := 74) rfl))) (Or.inl (hw _ (List.mem_of_getElem? (i := 89) rfl))) (by decide) (t := .long) (t' := .long) (by decide) (by decide))))
    obtain ⟨T11, X11, e11, st11⟩ := getF X10 hx hZ hown (host := "") (Or.inl (hw _ (List.mem_of_getElem? (i := 115) rfl))) (Via.of (hw _ (List.mem_of_getElem? (i := 116) rfl))) e10 f12 (g := (mkF m 87 #[.val (.ref a), .val (.int (ntz wr))] [(.ref a), (.ref a)])) rfl rfl (hb hby d13_87)
    refine Go.step (st11) ?_
    show Go _ _ _ _ _ _ _ T11 (mkF m 90 #[.val (.ref a), .val (.int (ntz wr))] [(.long tk), (.ref a)])
    refine Go.step (fun tt kk => XS.lconst X11.here hx rfl (hb hby d13_90) kk) ?_
    show Go _ _ _ _ _ _ _ T11 (mkF m 91 #[.val (.ref a), .val (.int (ntz wr))] [(.long (1 : Int64)), (.long tk), (.ref a)])
    refine Go.step (fun tt kk => XS.iloadN X11.here hx rfl (hb hby d13_91) rfl kk) ?_
    show Go _ _ _ _ _ _ _ T11 (mkF m 92 #[.val (.ref a), .val (.int (ntz wr))] [(.int (ntz wr)), (.long (1 : Int64)), (.long tk), (.ref a)])
    refine Go.step (fun tt kk => XS.lshl X11.here hx rfl (hb hby d13_92) rfl kk) ?_
    show Go _ _ _ _ _ _ _ T11 (mkF m 93 #[.val (.ref a), .val (.int (ntz wr))] [(.long ((1 : Int64) <<< ((ntz wr) &&& 0x3f).toInt64)), (.long tk), (.ref a)])
    refine Go.step (fun tt kk => XS.lor X11.here hx rfl (hb hby d13_93) rfl kk) ?_
    show Go _ _ _ _ _ _ _ T11 (mkF m 94 #[.val (.ref a), .val (.int (ntz wr))] [(.long (tk ||| ((1 : Int64) <<< ((ntz wr) &&& 0x3f).toInt64))), (.ref a)])
    have f14 := (Exa.wr W10 E_a)
    obtain ⟨T13, h13, X13, e13, W13, st13⟩ := putF X11 hx hZ hown (host := "") (Or.inl (hw _ (List.mem_of_getElem? (i := 115) rfl))) (Via.of (hw _ (List.mem_of_getElem? (i := 116) rfl))) e11 f12 f14 (Or.inl (hw _ (List.mem_of_getElem? (i := 74) rfl))) (hw _ (List.mem_of_getElem? (i := 2) rfl)) (ty := .long) (by decide) rfl rfl (g := (mkF m 94 #[.val (.ref a), .val (.int (ntz wr))] [(.long (tk ||| ((1 : Int64) <<< ((ntz wr) &&& 0x3f).toInt64))), (.ref a)])) rfl rfl (hb hby d13_94)
    have F13 := Fld.same W13 f12
    have N13 := Fr.snoc X13 N10 g_a
    have Z13 : n0 ≤ h13.size := Nat.le_trans Z10 (Keep.of_wr W13).1
    have K13 : Keep hI h13 [a] := K10.wr W13 (Or.inl (List.mem_of_getElem? (i := 0) rfl))
    refine Go.step (st13) ?_
    show Go _ _ _ _ _ _ _ T13 (mkF m 97 #[.val (.ref a), .val (.int (ntz wr))] [])
    refine Go.step (fun tt kk => XS.goto X13.here hx rfl (pc0 := 97) (pc' := 156) rfl (hb hby d13_97) (by decide) (by decide) kk) ?_
    show Go _ _ _ _ _ _ _ T13 (mkF m 156 #[.val (.ref a), .val (.int (ntz wr))] [])
    refine Go.step (fun tt kk => XS.iloadN X13.here hx rfl (hb hby d13_156) rfl kk) ?_
    show Go _ _ _ _ _ _ _ T13 (mkF m 157 #[.val (.ref a), .val (.int (ntz wr))] [(.int (ntz wr))])
    have f16 := (Fld.other W13 (Fld.other W10 F_11 (Or.inr (slot_ne (Or.inl (hw _ (List.mem_of_getElem? (i := 93) rfl))) (Or.inl (hw _ (List.mem_of_getElem? (i := 89) rfl))) (by decide) (t := .boolean) (t' := .long) (by decide) (by decide)))) (Or.inr (slot_ne (Or.inl (hw _ (List.mem_of_getElem? (i := 93) rfl))) (Or.inl (hw _ (List.mem_of_getElem? (i := 74) rfl))) (by decide) (t := .boolean) (t' := .long) (by decide) (by decide))))
    have f15 : Fld Z h13 a "com/example/gridwright/gridwright/engine/SmallDraft" "rows" "Z" (.int (bi (true = true))) := by
      have q := f16
      have e : rb = true := c4_2
      subst e
      exact q
    have f17 := (Exa.wr W13 f14)
    have f18 := (Fld.other W13 (Fld.other W10 F_0 (Or.inr (slot_ne (Or.inr (hw _ (List.mem_of_getElem? (i := 16) rfl))) (Or.inl (hw _ (List.mem_of_getElem? (i := 89) rfl))) (by decide) (t := .int) (t' := .long) (by decide) (by decide)))) (Or.inr (slot_ne (Or.inr (hw _ (List.mem_of_getElem? (i := 16) rfl))) (Or.inl (hw _ (List.mem_of_getElem? (i := 74) rfl))) (by decide) (t := .int) (t' := .long) (by decide) (by decide))))
    have f19 := (Fld.other W13 (Fld.other W10 F_1 (Or.inr (slot_ne (Or.inr (hw _ (List.mem_of_getElem? (i := 18) rfl))) (Or.inl (hw _ (List.mem_of_getElem? (i := 89) rfl))) (by decide) (t := .int) (t' := .long) (by decide) (by decide)))) (Or.inr (slot_ne (Or.inr (hw _ (List.mem_of_getElem? (i := 18) rfl))) (Or.inl (hw _ (List.mem_of_getElem? (i := 74) rfl))) (by decide) (t := .int) (t' := .long) (by decide) (by decide))))
    have f20 := (Fld.other W13 (Fld.other W10 F_3 (Or.inr (slot_ne (Or.inl (hw _ (List.mem_of_getElem? (i := 76) rfl))) (Or.inl (hw _ (List.mem_of_getElem? (i := 89) rfl))) (by decide) (t := .int) (t' := .long) (by decide) (by decide)))) (Or.inr (slot_ne (Or.inl (hw _ (List.mem_of_getElem? (i := 76) rfl))) (Or.inl (hw _ (List.mem_of_getElem? (i := 74) rfl))) (by decide) (t := .int) (t' := .long) (by decide) (by decide))))
    have f21 := (Fld.other W13 (Fld.other W10 F_4 (Or.inr (slot_ne (Or.inl (hw _ (List.mem_of_getElem? (i := 83) rfl))) (Or.inl (hw _ (List.mem_of_getElem? (i := 89) rfl))) (by decide) (t := (.object "com/example/gridwright/gridwright/engine/Grid")) (t' := .long) (by decide) (by decide)))) (Or.inr (slot_ne (Or.inl (hw _ (List.mem_of_getElem? (i := 83) rfl))) (Or.inl (hw _ (List.mem_of_getElem? (i := 74) rfl))) (by decide) (t := (.object "com/example/gridwright/gridwright/engine/Grid")) (t' := .long) (by decide) (by decide))))
    have f22 := (Fld.other W13 (Fld.other W10 F_5 (Or.inr (slot_ne (Or.inr (hw _ (List.mem_of_getElem? (i := 21) rfl))) (Or.inl (hw _ (List.mem_of_getElem? (i := 89) rfl))) (by decide) (t := (.array .long)) (t' := .long) (by decide) (by decide)))) (Or.inr (slot_ne (Or.inr (hw _ (List.mem_of_getElem? (i := 21) rfl))) (Or.inl (hw _ (List.mem_of_getElem? (i := 74) rfl))) (by decide) (t := (.array .long)) (t' := .long) (by decide) (by decide))))
    have f23 := (Fld.other W13 (Fld.other W10 F_6 (Or.inr (slot_ne (Or.inr (hw _ (List.mem_of_getElem? (i := 23) rfl))) (Or.inl (hw _ (List.mem_of_getElem? (i := 89) rfl))) (by decide) (t := (.array .long)) (t' := .long) (by decide) (by decide)))) (Or.inr (slot_ne (Or.inr (hw _ (List.mem_of_getElem? (i := 23) rfl))) (Or.inl (hw _ (List.mem_of_getElem? (i := 74) rfl))) (by decide) (t := (.array .long)) (t' := .long) (by decide) (by decide))))
    have f24 := (Fld.other W13 (Fld.other W10 F_7 (Or.inr (slot_ne (Or.inl (hw _ (List.mem_of_getElem? (i := 85) rfl))) (Or.inl (hw _ (List.mem_of_getElem? (i := 89) rfl))) (by decide) (t := .long) (t' := .long) (by decide) (by decide)))) (Or.inr (slot_ne (Or.inl (hw _ (List.mem_of_getElem? (i := 85) rfl))) (Or.inl (hw _ (List.mem_of_getElem? (i := 74) rfl))) (by decide) (t := .long) (t' := .long) (by decide) (by decide))))
    have f25 := (Fld.other W13 (Fld.other W10 F_8 (Or.inr (slot_ne (Or.inl (hw _ (List.mem_of_getElem? (i := 87) rfl))) (Or.inl (hw _ (List.mem_of_getElem? (i := 89) rfl))) (by decide) (t := .long) (t' := .long) (by decide) (by decide)))) (Or.inr (slot_ne (Or.inl (hw _ (List.mem_of_getElem? (i := 87) rfl))) (Or.inl (hw _ (List.mem_of_getElem? (i := 74) rfl))) (by decide) (t := .long) (t' := .long) (by decide) (by decide))))
    have f26 := (Fld.other W13 F10 (Or.inr (slot_ne (Or.inl (hw _ (List.mem_of_getElem? (i := 89) rfl))) (Or.inl (hw _ (List.mem_of_getElem? (i := 74) rfl))) (by decide) (t := .long) (t' := .long) (by decide) (by decide))))
    have f27 := (Fld.other W13 (Fld.other W10 F_10 (Or.inr (slot_ne (Or.inl (hw _ (List.mem_of_getElem? (i := 91) rfl))) (Or.inl (hw _ (List.mem_of_getElem? (i := 89) rfl))) (by decide) (t := .long) (t' := .long) (by decide) (by decide)))) (Or.inr (slot_ne (Or.inl (hw _ (List.mem_of_getElem? (i := 91) rfl))) (Or.inl (hw _ (List.mem_of_getElem? (i := 74) rfl))) (by decide) (t := .long) (t' := .long) (by decide) (by decide))))
    refine go_retI X13 hx hret hlk (hb hby d13_157) ?_ (by decide) (by decide)
    try rw [e13]
    exact ⟨rfl, N13, eI ▸ K13, f17, f18, f19, F13, f20, f21, f22, f23, f24, f25, f26, f27, f15⟩
  · refine Go.step (fun tt kk => XS.ifYes X1.here hx rfl (pc0 := 4) (pc' := 19) rfl (hb hby d13_4) rfl ((if0 _ _).trans (teq (bi_f c4_2)).1) (by decide) (by decide) kk) ?_
    show Go _ _ _ _ _ _ _ T1 (mkF m 19 #[.val (.ref a), .unset] [])
    refine Go.step (fun tt kk => XS.aloadN X1.here hx rfl (hb hby d13_19) rfl rfl kk) ?_
    show Go _ _ _ _ _ _ _ T1 (mkF m 20 #[.val (.ref a), .unset] [(.ref a)])
    obtain ⟨T28, X28, e28, st28⟩ := getF X1 hx hZ hown (host := "") (Or.inl (hw _ (List.mem_of_getElem? (i := 90) rfl))) Via.refl e1 F_10 (g := (mkF m 20 #[.val (.ref a), .unset] [(.ref a)])) rfl rfl (hb hby d13_20)
    refine Go.step (st28) ?_
    show Go _ _ _ _ _ _ _ T28 (mkF m 23 #[.val (.ref a), .unset] [(.long wc)])
    refine Go.step (fun tt kk => XS.lconst X28.here hx rfl (hb hby d13_23) kk) ?_
    show Go _ _ _ _ _ _ _ T28 (mkF m 24 #[.val (.ref a), .unset] [(.long (0 : Int64)), (.long wc)])
    refine Go.step (fun tt kk => XS.lcmp X28.here hx rfl (hb hby d13_24) rfl kk) ?_
    show Go _ _ _ _ _ _ _ T28 (mkF m 25 #[.val (.ref a), .unset] [(.int (lcmpW wc (0 : Int64)))])
    refine Go.step (fun tt kk => XS.ifNo X28.here hx rfl (hb hby d13_25) rfl ((if0 _ _).trans (teq ((lw_eq _ _).mpr (hc.resolve_left c4_2))).2) kk) ?_
    show Go _ _ _ _ _ _ _ T28 (mkF m 28 #[.val (.ref a), .unset] [])
    refine Go.step (fun tt kk => XS.aloadN X28.here hx rfl (hb hby d13_28) rfl rfl kk) ?_
    show Go _ _ _ _ _ _ _ T28 (mkF m 29 #[.val (.ref a), .unset] [(.ref a)])
    refine Go.step (fun tt kk => XS.aloadN X28.here hx rfl (hb hby d13_29) rfl rfl kk) ?_
    show Go _ _ _ _ _ _ _ T28 (mkF m 30 #[.val (.ref a), .unset] [(.ref a), (.ref a)])
    obtain ⟨T29, X29, e29, st29⟩ := getF X28 hx hZ hown (host := "") (Or.inl (hw _ (List.mem_of_getElem? (i := 92) rfl))) Via.refl e28 F_11 (g := (mkF m 30 #[.val (.ref a), .unset] [(.ref a), (.ref a)])) rfl rfl (hb hby d13_30)
    refine Go.step (st29) ?_
    show Go _ _ _ _ _ _ _ T29 (mkF m 33 #[.val (.ref a), .unset] [(.int (bi (rb = true))), (.ref a)])
    refine Go.step (fun tt kk => XS.ifNo X29.here hx rfl (hb hby d13_33) rfl ((if0 _ _).trans (teq (bi_f c4_2)).2) kk) ?_
    show Go _ _ _ _ _ _ _ T29 (mkF m 36 #[.val (.ref a), .unset] [(.ref a)])
    refine Go.step (fun tt kk => XS.iconst X29.here hx rfl (hb hby d13_36) kk) ?_
    show Go _ _ _ _ _ _ _ T29 (mkF m 37 #[.val (.ref a), .unset] [(.int (1 : Int32)), (.ref a)])
    refine Go.step (fun tt kk => XS.goto X29.here hx rfl (pc0 := 37) (pc' := 41) rfl (hb hby d13_37) (by decide) (by decide) kk) ?_
    show Go _ _ _ _ _ _ _ T29 (mkF m 41 #[.val (.ref a), .unset] [(.int (1 : Int32)), (.ref a)])
    obtain ⟨T30, h30, X30, e30, W30, st30⟩ := putFN X29 hx hZ hown (hw _ (List.mem_of_getElem? (i := 92) rfl)) Via.refl e29 F_11 E_a (Or.inl (hw _ (List.mem_of_getElem? (i := 93) rfl))) (hw _ (List.mem_of_getElem? (i := 2) rfl)) (ty := .boolean) (v' := (.int (1 : Int32))) (by decide) rfl rfl (g := (mkF m 41 #[.val (.ref a), .unset] [(.int (1 : Int32)), (.ref a)])) rfl rfl (hb hby d13_41)
    have F30 := Fld.same W30 F_11
    have N30 := Fr.snoc X30 N0 g_a
    have Z30 : n0 ≤ h30.size := Nat.le_trans Z0 (Keep.of_wr W30).1
    have K30 : Keep hI h30 [a] := K0.wr W30 (Or.inl (List.mem_of_getElem? (i := 0) rfl))
    refine Go.step (st30) ?_
    show Go _ _ _ _ _ _ _ T30 (mkF m 44 #[.val (.ref a), .unset] [])
    refine Go.step (fun tt kk => XS.iconst X30.here hx rfl (hb hby d13_44) kk) ?_
    show Go _ _ _ _ _ _ _ T30 (mkF m 45 #[.val (.ref a), .unset] [(.int (-1 : Int32))])
    refine Go.step (fun tt kk => XS.istoreN X30.here hx rfl (hb hby d13_45) rfl (l' := #[.val (.ref a), .val (.int (-1 : Int32))]) rfl kk) ?_
    show Go _ _ _ _ _ _ _ T30 (mkF m 46 #[.val (.ref a), .val (.int (-1 : Int32))] [])
    refine Go.step (fun tt kk => XS.aloadN X30.here hx rfl (hb hby d13_46) rfl rfl kk) ?_
    show Go _ _ _ _ _ _ _ T30 (mkF m 47 #[.val (.ref a), .val (.int (-1 : Int32))] [(.ref a)])
    obtain ⟨T31, X31, e31, st31⟩ := getF X30 hx hZ hown (host := "") (Or.inl (hw _ (List.mem_of_getElem? (i := 92) rfl))) Via.refl e30 F30 (g := (mkF m 47 #[.val (.ref a), .val (.int (-1 : Int32))] [(.ref a)])) rfl rfl (hb hby d13_47)
    refine Go.step (st31) ?_
    show Go _ _ _ _ _ _ _ T31 (mkF m 50 #[.val (.ref a), .val (.int (-1 : Int32))] [(.int (1 : Int32))])
    refine Go.step (fun tt kk => XS.ifNo X31.here hx rfl (hb hby d13_50) rfl ((if0 _ _).trans (feq (by decide)).1) kk) ?_
    show Go _ _ _ _ _ _ _ T31 (mkF m 53 #[.val (.ref a), .val (.int (-1 : Int32))] [])
    refine Go.step (fun tt kk => XS.aloadN X31.here hx rfl (hb hby d13_53) rfl rfl kk) ?_
    show Go _ _ _ _ _ _ _ T31 (mkF m 54 #[.val (.ref a), .val (.int (-1 : Int32))] [(.ref a)])
    have f33 := (Fld.other W30 F_9 (Or.inr (slot_ne (Or.inl (hw _ (List.mem_of_getElem? (i := 89) rfl))) (Or.inl (hw _ (List.mem_of_getElem? (i := 93) rfl))) (by decide) (t := .long) (t' := .boolean) (by decide) (by decide))))
    obtain ⟨T32, X32, e32, st32⟩ := getF X31 hx hZ hown (host := "") (Or.inl (hw _ (List.mem_of_getElem? (i := 88) rfl))) Via.refl e31 f33 (g := (mkF m 54 #[.val (.ref a), .val (.int (-1 : Int32))] [(.ref a)])) rfl rfl (hb hby d13_54)
    refine Go.step (st32) ?_
    show Go _ _ _ _ _ _ _ T32 (mkF m 57 #[.val (.ref a), .val (.int (-1 : Int32))] [(.long wr)])
    refine Go.step (fun tt kk => XS.lconst X32.here hx rfl (hb hby d13_57) kk) ?_
    show Go _ _ _ _ _ _ _ T32 (mkF m 58 #[.val (.ref a), .val (.int (-1 : Int32))] [(.long (0 : Int64)), (.long wr)])
    refine Go.step (fun tt kk => XS.lcmp X32.here hx rfl (hb hby d13_58) rfl kk) ?_
    show Go _ _ _ _ _ _ _ T32 (mkF m 59 #[.val (.ref a), .val (.int (-1 : Int32))] [(.int (lcmpW wr (0 : Int64)))])
    refine Go.step (fun tt kk => XS.ifNo X32.here hx rfl (hb hby d13_59) rfl ((if0 _ _).trans (feq (fun q => hr ((lw_eq _ _).mp q))).1) kk) ?_
    show Go _ _ _ _ _ _ _ T32 (mkF m 62 #[.val (.ref a), .val (.int (-1 : Int32))] [])
    refine Go.step (fun tt kk => XS.aloadN X32.here hx rfl (hb hby d13_62) rfl rfl kk) ?_
    show Go _ _ _ _ _ _ _ T32 (mkF m 63 #[.val (.ref a), .val (.int (-1 : Int32))] [(.ref a)])
    obtain ⟨T34, X34, e34, st34⟩ := getF X32 hx hZ hown (host := "") (Or.inl (hw _ (List.mem_of_getElem? (i := 88) rfl))) Via.refl e32 f33 (g := (mkF m 63 #[.val (.ref a), .val (.int (-1 : Int32))] [(.ref a)])) rfl rfl (hb hby d13_63)
    refine Go.step (st34) ?_
    show Go _ _ _ _ _ _ _ T34 (mkF m 66 #[.val (.ref a), .val (.int (-1 : Int32))] [(.long wr)])
    obtain ⟨v35, T35, L35, X35, q35, st35⟩ := c_static X34 hx hZ hown (y := (⟨"java/lang/Long", "numberOfTrailingZeros", "(J)I"⟩ : MethodName)) (hw _ (List.mem_of_getElem? (i := 106) rfl)) (hw _ (List.mem_of_getElem? (i := 107) rfl)) (hw _ (List.mem_of_getElem? (i := 108) rfl)) (hw _ (List.mem_of_getElem? (i := 109) rfl)) (by decide) (argsL := [(.long wr)]) (rest := []) (rmtl l Z a0 hw [] wr h30 n0 Z30) e34 pd_5 rfl (by rw [hml]; rfl) (W := 0) (by show 2 * 0 + _ ≤ _; exact Nat.le_of_eq rfl) (by decide) (by decide) (by decide) (by decide) (hb hby d13_66) (Ls := #[.val (.ref a), .val (.int (-1 : Int32))])
    obtain ⟨rfl, rfl, e35⟩ := q35
    have N35 := Fr.app N30 (Fr.nil n0)
    refine Go.step (st35) ?_
    show Go _ _ _ _ _ _ _ T35 (mkF m 69 #[.val (.ref a), .val (.int (-1 : Int32))] [(.int (ntz wr))])
    refine Go.step (fun tt kk => XS.istoreN X35.here hx rfl (hb hby d13_69) rfl (l' := #[.val (.ref a), .val (.int (ntz wr))]) rfl kk) ?_
    show Go _ _ _ _ _ _ _ T35 (mkF m 70 #[.val (.ref a), .val (.int (ntz wr))] [])
    refine Go.step (fun tt kk => XS.aloadN X35.here hx rfl (hb hby d13_70) rfl rfl kk) ?_
    show Go _ _ _ _ _ _ _ T35 (mkF m 71 #[.val (.ref a), .val (.int (ntz wr))] [(.ref a)])
    refine Go.step (fun tt kk => XS.dup X35.here hx rfl (hb hby d13_71) rfl rfl kk) ?_
    show Go _ _ _ _ _ _ _ T35 (mkF m 72 #[.val (.ref a), .val (.int (ntz wr))] [(.ref a), (.ref a)])
    obtain ⟨T36, X36, e36, st36⟩ := getF X35 hx hZ hown (host := "") (Or.inl (hw _ (List.mem_of_getElem? (i := 88) rfl))) Via.refl e35 f33 (g := (mkF m 72 #[.val (.ref a), .val (.int (ntz wr))] [(.ref a), (.ref a)])) rfl rfl (hb hby d13_72)
    refine Go.step (st36) ?_
    show Go _ _ _ _ _ _ _ T36 (mkF m 75 #[.val (.ref a), .val (.int (ntz wr))] [(.long wr), (.ref a)])
    refine Go.step (fun tt kk => XS.aloadN X36.here hx rfl (hb hby d13_75) rfl rfl kk) ?_
    show Go _ _ _ _ _ _ _ T36 (mkF m 76 #[.val (.ref a), .val (.int (ntz wr))] [(.ref a), (.long wr), (.ref a)])
    obtain ⟨T37, X37, e37, st37⟩ := getF X36 hx hZ hown (host := "") (Or.inl (hw _ (List.mem_of_getElem? (i := 88) rfl))) Via.refl e36 f33 (g := (mkF m 76 #[.val (.ref a), .val (.int (ntz wr))] [(.ref a), (.long wr), (.ref a)])) rfl rfl (hb hby d13_76)
    refine Go.step (st37) ?_
    show Go _ _ _ _ _ _ _ T37 (mkF m 79 #[.val (.ref a), .val (.int (ntz wr))] [(.long wr), (.long wr), (.ref a)])
    refine Go.step (fun tt kk => XS.lconst X37.here hx rfl (hb hby d13_79) kk) ?_
    show Go _ _ _ _ _ _ _ T37 (mkF m 80 #[.val (.ref a), .val (.int (ntz wr))] [(.long (1 : Int64)), (.long wr), (.long wr), (.ref a)])
    refine Go.step (fun tt kk => XS.lsub X37.here hx rfl (hb hby d13_80) rfl kk) ?_
    show Go _ _ _ _ _ _ _ T37 (mkF m 81 #[.val (.ref a), .val (.int (ntz wr))] [(.long (wr - (1 : Int64))), (.long wr), (.ref a)])
    refine Go.step (fun tt kk => XS.land X37.here hx rfl (hb hby d13_81) rfl kk) ?_
    show Go _ _ _ _ _ _ _ T37 (mkF m 82 #[.val (.ref a), .val (.int (ntz wr))] [(.long (wr &&& (wr - (1 : Int64)))), (.ref a)])
    have f39 := (Exa.wr W30 E_a)
    obtain ⟨T38, h38, X38, e38, W38, st38⟩ := putF X37 hx hZ hown (host := "") (Or.inl (hw _ (List.mem_of_getElem? (i := 88) rfl))) Via.refl e37 f33 f39 (Or.inl (hw _ (List.mem_of_getElem? (i := 89) rfl))) (hw _ (List.mem_of_getElem? (i := 2) rfl)) (ty := .long) (by decide) rfl rfl (g := (mkF m 82 #[.val (.ref a), .val (.int (ntz wr))] [(.long (wr &&& (wr - (1 : Int64)))), (.ref a)])) rfl rfl (hb hby d13_82)
    have F38 := Fld.same W38 f33
    have N38 := Fr.snoc X38 N35 g_a
    have Z38 : n0 ≤ h38.size := Nat.le_trans Z30 (Keep.of_wr W38).1
    have K38 : Keep hI h38 [a] := K30.wr W38 (Or.inl (List.mem_of_getElem? (i := 0) rfl))
    refine Go.step (st38) ?_
    show Go _ _ _ _ _ _ _ T38 (mkF m 85 #[.val (.ref a), .val (.int (ntz wr))] [])
    refine Go.step (fun tt kk => XS.aloadN X38.here hx rfl (hb hby d13_85) rfl rfl kk) ?_
    show Go _ _ _ _ _ _ _ T38 (mkF m 86 #[.val (.ref a), .val (.int (ntz wr))] [(.ref a)])
    refine Go.step (fun tt kk => XS.dup X38.here hx rfl (hb hby d13_86) rfl rfl kk) ?_
    show Go _ _ _ _ _ _ _ T38 (mkF m 87 #[.val (.ref a), .val (.int (ntz wr))] [(.ref a), (.ref a)])
    have f41 := (Fld.other W38 (Fld.other W30 F_2 (Or.inr (slot_ne (Or.inl (hw _ (List.mem_of_getElem? (i := 74) rfl))) (Or.inl (hw _ (List.mem_of_getElem? (i := 93) rfl))) (by decide) (t := .long) (t' := .boolean) (by decide) (by decide)))) (Or.inr (slot_ne (Or.inl (hw _ (List.mem_of_getElem? (i := 74) rfl))) (Or.inl (hw _ (List.mem_of_getElem? (i := 89) rfl))) (by decide) (t := .long) (t' := .long) (by decide) (by decide))))
    obtain ⟨T40, X40, e40, st40⟩ := getF X38 hx hZ hown (host := "") (Or.inl (hw _ (List.mem_of_getElem? (i := 115) rfl))) (Via.of (hw _ (List.mem_of_getElem? (i := 116) rfl))) e38 f41 (g := (mkF m 87 #[.val (.ref a), .val (.int (ntz wr))] [(.ref a), (.ref a)])) rfl rfl (hb hby d13_87)
    refine Go.step (st40) ?_
    show Go _ _ _ _ _ _ _ T40 (mkF m 90 #[.val (.ref a), .val (.int (ntz wr))] [(.long tk), (.ref a)])
    refine Go.step (fun tt kk => XS.lconst X40.here hx rfl (hb hby d13_90) kk) ?_
    show Go _ _ _ _ _ _ _ T40 (mkF m 91 #[.val (.ref a), .val (.int (ntz wr))] [(.long (1 : Int64)), (.long tk), (.ref a)])
    refine Go.step (fun tt kk => XS.iloadN X40.here hx rfl (hb hby d13_91) rfl kk) ?_
    show Go _ _ _ _ _ _ _ T40 (mkF m 92 #[.val (.ref a), .val (.int (ntz wr))] [(.int (ntz wr)), (.long (1 : Int64)), (.long tk), (.ref a)])
    refine Go.step (fun tt kk => XS.lshl X40.here hx rfl (hb hby d13_92) rfl kk) ?_
    show Go _ _ _ _ _ _ _ T40 (mkF m 93 #[.val (.ref a), .val (.int (ntz wr))] [(.long ((1 : Int64) <<< ((ntz wr) &&& 0x3f).toInt64)), (.long tk), (.ref a)])
    refine Go.step (fun tt kk => XS.lor X40.here hx rfl (hb hby d13_93) rfl kk) ?_
    show Go _ _ _ _ _ _ _ T40 (mkF m 94 #[.val (.ref a), .val (.int (ntz wr))] [(.long (tk ||| ((1 : Int64) <<< ((ntz wr) &&& 0x3f).toInt64))), (.ref a)])
    have f43 := (Exa.wr W38 f39)
    obtain ⟨T42, h42, X42, e42, W42, st42⟩ := putF X40 hx hZ hown (host := "") (Or.inl (hw _ (List.mem_of_getElem? (i := 115) rfl))) (Via.of (hw _ (List.mem_of_getElem? (i := 116) rfl))) e40 f41 f43 (Or.inl (hw _ (List.mem_of_getElem? (i := 74) rfl))) (hw _ (List.mem_of_getElem? (i := 2) rfl)) (ty := .long) (by decide) rfl rfl (g := (mkF m 94 #[.val (.ref a), .val (.int (ntz wr))] [(.long (tk ||| ((1 : Int64) <<< ((ntz wr) &&& 0x3f).toInt64))), (.ref a)])) rfl rfl (hb hby d13_94)
    have F42 := Fld.same W42 f41
    have N42 := Fr.snoc X42 N38 g_a
    have Z42 : n0 ≤ h42.size := Nat.le_trans Z38 (Keep.of_wr W42).1
    have K42 : Keep hI h42 [a] := K38.wr W42 (Or.inl (List.mem_of_getElem? (i := 0) rfl))
    refine Go.step (st42) ?_
    show Go _ _ _ _ _ _ _ T42 (mkF m 97 #[.val (.ref a), .val (.int (ntz wr))] [])
    refine Go.step (fun tt kk => XS.goto X42.here hx rfl (pc0 := 97) (pc' := 156) rfl (hb hby d13_97) (by decide) (by decide) kk) ?_
    show Go _ _ _ _ _ _ _ T42 (mkF m 156 #[.val (.ref a), .val (.int (ntz wr))] [])
    refine Go.step (fun tt kk => XS.iloadN X42.here hx rfl (hb hby d13_156) rfl kk) ?_
    show Go _ _ _ _ _ _ _ T42 (mkF m 157 #[.val (.ref a), .val (.int (ntz wr))] [(.int (ntz wr))])
    have f45 := (Fld.other W42 (Fld.other W38 F30 (Or.inr (slot_ne (Or.inl (hw _ (List.mem_of_getElem? (i := 93) rfl))) (Or.inl (hw _ (List.mem_of_getElem? (i := 89) rfl))) (by decide) (t := .boolean) (t' := .long) (by decide) (by decide)))) (Or.inr (slot_ne (Or.inl (hw _ (List.mem_of_getElem? (i := 93) rfl))) (Or.inl (hw _ (List.mem_of_getElem? (i := 74) rfl))) (by decide) (t := .boolean) (t' := .long) (by decide) (by decide))))
    have f44 : Fld Z h42 a "com/example/gridwright/gridwright/engine/SmallDraft" "rows" "Z" (.int (bi (true = true))) := by
      have q := f45
      exact q
    have f46 := (Exa.wr W42 f43)
    have f47 := (Fld.other W42 (Fld.other W38 (Fld.other W30 F_0 (Or.inr (slot_ne (Or.inr (hw _ (List.mem_of_getElem? (i := 16) rfl))) (Or.inl (hw _ (List.mem_of_getElem? (i := 93) rfl))) (by decide) (t := .int) (t' := .boolean) (by decide) (by decide)))) (Or.inr (slot_ne (Or.inr (hw _ (List.mem_of_getElem? (i := 16) rfl))) (Or.inl (hw _ (List.mem_of_getElem? (i := 89) rfl))) (by decide) (t := .int) (t' := .long) (by decide) (by decide)))) (Or.inr (slot_ne (Or.inr (hw _ (List.mem_of_getElem? (i := 16) rfl))) (Or.inl (hw _ (List.mem_of_getElem? (i := 74) rfl))) (by decide) (t := .int) (t' := .long) (by decide) (by decide))))
    have f48 := (Fld.other W42 (Fld.other W38 (Fld.other W30 F_1 (Or.inr (slot_ne (Or.inr (hw _ (List.mem_of_getElem? (i := 18) rfl))) (Or.inl (hw _ (List.mem_of_getElem? (i := 93) rfl))) (by decide) (t := .int) (t' := .boolean) (by decide) (by decide)))) (Or.inr (slot_ne (Or.inr (hw _ (List.mem_of_getElem? (i := 18) rfl))) (Or.inl (hw _ (List.mem_of_getElem? (i := 89) rfl))) (by decide) (t := .int) (t' := .long) (by decide) (by decide)))) (Or.inr (slot_ne (Or.inr (hw _ (List.mem_of_getElem? (i := 18) rfl))) (Or.inl (hw _ (List.mem_of_getElem? (i := 74) rfl))) (by decide) (t := .int) (t' := .long) (by decide) (by decide))))
    have f49 := (Fld.other W42 (Fld.other W38 (Fld.other W30 F_3 (Or.inr (slot_ne (Or.inl (hw _ (List.mem_of_getElem? (i := 76) rfl))) (Or.inl (hw _ (List.mem_of_getElem? (i := 93) rfl))) (by decide) (t := .int) (t' := .boolean) (by decide) (by decide)))) (Or.inr (slot_ne (Or.inl (hw _ (List.mem_of_getElem? (i := 76) rfl))) (Or.inl (hw _ (List.mem_of_getElem? (i := 89) rfl))) (by decide) (t := .int) (t' := .long) (by decide) (by decide)))) (Or.inr (slot_ne (Or.inl (hw _ (List.mem_of_getElem? (i := 76) rfl))) (Or.inl (hw _ (List.mem_of_getElem? (i := 74) rfl))) (by decide) (t := .int) (t' := .long) (by decide) (by decide))))
    have f50 := (Fld.other W42 (Fld.other W38 (Fld.other W30 F_4 (Or.inr (slot_ne (Or.inl (hw _ (List.mem_of_getElem? (i := 83) rfl))) (Or.inl (hw _ (List.mem_of_getElem? (i := 93) rfl))) (by decide) (t := (.object "com/example/gridwright/gridwright/engine/Grid")) (t' := .boolean) (by decide) (by decide)))) (Or.inr (slot_ne (Or.inl (hw _ (List.mem_of_getElem? (i := 83) rfl))) (Or.inl (hw _ (List.mem_of_getElem? (i := 89) rfl))) (by decide) (t := (.object "com/example/gridwright/gridwright/engine/Grid")) (t' := .long) (by decide) (by decide)))) (Or.inr (slot_ne (Or.inl (hw _ (List.mem_of_getElem? (i := 83) rfl))) (Or.inl (hw _ (List.mem_of_getElem? (i := 74) rfl))) (by decide) (t := (.object "com/example/gridwright/gridwright/engine/Grid")) (t' := .long) (by decide) (by decide))))
    have f51 := (Fld.other W42 (Fld.other W38 (Fld.other W30 F_5 (Or.inr (slot_ne (Or.inr (hw _ (List.mem_of_getElem? (i := 21) rfl))) (Or.inl (hw _ (List.mem_of_getElem? (i := 93) rfl))) (by decide) (t := (.array .long)) (t' := .boolean) (by decide) (by decide)))) (Or.inr (slot_ne (Or.inr (hw _ (List.mem_of_getElem? (i := 21) rfl))) (Or.inl (hw _ (List.mem_of_getElem? (i := 89) rfl))) (by decide) (t := (.array .long)) (t' := .long) (by decide) (by decide)))) (Or.inr (slot_ne (Or.inr (hw _ (List.mem_of_getElem? (i := 21) rfl))) (Or.inl (hw _ (List.mem_of_getElem? (i := 74) rfl))) (by decide) (t := (.array .long)) (t' := .long) (by decide) (by decide))))
    have f52 := (Fld.other W42 (Fld.other W38 (Fld.other W30 F_6 (Or.inr (slot_ne (Or.inr (hw _ (List.mem_of_getElem? (i := 23) rfl))) (Or.inl (hw _ (List.mem_of_getElem? (i := 93) rfl))) (by decide) (t := (.array .long)) (t' := .boolean) (by decide) (by decide)))) (Or.inr (slot_ne (Or.inr (hw _ (List.mem_of_getElem? (i := 23) rfl))) (Or.inl (hw _ (List.mem_of_getElem? (i := 89) rfl))) (by decide) (t := (.array .long)) (t' := .long) (by decide) (by decide)))) (Or.inr (slot_ne (Or.inr (hw _ (List.mem_of_getElem? (i := 23) rfl))) (Or.inl (hw _ (List.mem_of_getElem? (i := 74) rfl))) (by decide) (t := (.array .long)) (t' := .long) (by decide) (by decide))))
    have f53 := (Fld.other W42 (Fld.other W38 (Fld.other W30 F_7 (Or.inr (slot_ne (Or.inl (hw _ (List.mem_of_getElem? (i := 85) rfl))) (Or.inl (hw _ (List.mem_of_getElem? (i := 93) rfl))) (by decide) (t := .long) (t' := .boolean) (by decide) (by decide)))) (Or.inr (slot_ne (Or.inl (hw _ (List.mem_of_getElem? (i := 85) rfl))) (Or.inl (hw _ (List.mem_of_getElem? (i := 89) rfl))) (by decide) (t := .long) (t' := .long) (by decide) (by decide)))) (Or.inr (slot_ne (Or.inl (hw _ (List.mem_of_getElem? (i := 85) rfl))) (Or.inl (hw _ (List.mem_of_getElem? (i := 74) rfl))) (by decide) (t := .long) (t' := .long) (by decide) (by decide))))
    have f54 := (Fld.other W42 (Fld.other W38 (Fld.other W30 F_8 (Or.inr (slot_ne (Or.inl (hw _ (List.mem_of_getElem? (i := 87) rfl))) (Or.inl (hw _ (List.mem_of_getElem? (i := 93) rfl))) (by decide) (t := .long) (t' := .boolean) (by decide) (by decide)))) (Or.inr (slot_ne (Or.inl (hw _ (List.mem_of_getElem? (i := 87) rfl))) (Or.inl (hw _ (List.mem_of_getElem? (i := 89) rfl))) (by decide) (t := .long) (t' := .long) (by decide) (by decide)))) (Or.inr (slot_ne (Or.inl (hw _ (List.mem_of_getElem? (i := 87) rfl))) (Or.inl (hw _ (List.mem_of_getElem? (i := 74) rfl))) (by decide) (t := .long) (t' := .long) (by decide) (by decide))))
    have f55 := (Fld.other W42 F38 (Or.inr (slot_ne (Or.inl (hw _ (List.mem_of_getElem? (i := 89) rfl))) (Or.inl (hw _ (List.mem_of_getElem? (i := 74) rfl))) (by decide) (t := .long) (t' := .long) (by decide) (by decide))))
    have f56 := (Fld.other W42 (Fld.other W38 (Fld.other W30 F_10 (Or.inr (slot_ne (Or.inl (hw _ (List.mem_of_getElem? (i := 91) rfl))) (Or.inl (hw _ (List.mem_of_getElem? (i := 93) rfl))) (by decide) (t := .long) (t' := .boolean) (by decide) (by decide)))) (Or.inr (slot_ne (Or.inl (hw _ (List.mem_of_getElem? (i := 91) rfl))) (Or.inl (hw _ (List.mem_of_getElem? (i := 89) rfl))) (by decide) (t := .long) (t' := .long) (by decide) (by decide)))) (Or.inr (slot_ne (Or.inl (hw _ (List.mem_of_getElem? (i := 91) rfl))) (Or.inl (hw _ (List.mem_of_getElem? (i := 74) rfl))) (by decide) (t := .long) (t' := .long) (by decide) (by decide))))
    refine go_retI X42 hx hret hlk (hb hby d13_157) ?_ (by decide) (by decide)
    try rw [e42]
    exact ⟨rfl, N42, eI ▸ K42, f46, f47, f48, F42, f49, f50, f51, f52, f53, f54, f55, f56, f44⟩
theorem ef_rmNc (m : MethodId) (x0 : Addr) : entryFrame m #[(.ref x0)] 2 = mkF m 0 #[.val (.ref x0), .unset] [] := by first | (simp [entryFrame, mkF, argsToLocals, Value.category]; done) | rfl
theorem d13_16 : decode prog_84_method_7_code 16 = .ok (.goto 12, 3) := by decide +kernel
theorem d13_40 : decode prog_84_method_7_code 40 = .ok (.iconst 0, 1) := by decide +kernel
theorem d13_100 : decode prog_84_method_7_code 100 = .ok (.aload_n 0, 1) := by decide +kernel
theorem d13_101 : decode prog_84_method_7_code 101 = .ok (.getfield 56, 3) := by decide +kernel
theorem d13_104 : decode prog_84_method_7_code 104 = .ok (.ifCond .ne 52, 3) := by decide +kernel
theorem d13_107 : decode prog_84_method_7_code 107 = .ok (.aload_n 0, 1) := by decide +kernel
theorem d13_108 : decode prog_84_method_7_code 108 = .ok (.getfield 53, 3) := by decide +kernel
theorem d13_111 : decode prog_84_method_7_code 111 = .ok (.lconst 0, 1) := by decide +kernel
theorem d13_112 : decode prog_84_method_7_code 112 = .ok (.lcmp, 1) := by decide +kernel
theorem d13_113 : decode prog_84_method_7_code 113 = .ok (.ifCond .eq 43, 3) := by decide +kernel
theorem d13_116 : decode prog_84_method_7_code 116 = .ok (.aload_n 0, 1) := by decide +kernel
theorem d13_117 : decode prog_84_method_7_code 117 = .ok (.getfield 46, 3) := by decide +kernel
theorem d13_120 : decode prog_84_method_7_code 120 = .ok (.aload_n 0, 1) := by decide +kernel
theorem d13_121 : decode prog_84_method_7_code 121 = .ok (.getfield 53, 3) := by decide +kernel
theorem d13_124 : decode prog_84_method_7_code 124 = .ok (.invokestatic 33, 3) := by decide +kernel
theorem d13_127 : decode prog_84_method_7_code 127 = .ok (.iadd, 1) := by decide +kernel
theorem d13_128 : decode prog_84_method_7_code 128 = .ok (.istore_n 1, 1) := by decide +kernel
theorem d13_129 : decode prog_84_method_7_code 129 = .ok (.aload_n 0, 1) := by decide +kernel
theorem d13_130 : decode prog_84_method_7_code 130 = .ok (.dup, 1) := by decide +kernel
theorem d13_131 : decode prog_84_method_7_code 131 = .ok (.getfield 53, 3) := by decide +kernel
theorem d13_134 : decode prog_84_method_7_code 134 = .ok (.aload_n 0, 1) := by decide +kernel
theorem d13_135 : decode prog_84_method_7_code 135 = .ok (.getfield 53, 3) := by decide +kernel
theorem d13_138 : decode prog_84_method_7_code 138 = .ok (.lconst 1, 1) := by decide +kernel
theorem d13_139 : decode prog_84_method_7_code 139 = .ok (.lsub, 1) := by decide +kernel
theorem d13_140 : decode prog_84_method_7_code 140 = .ok (.land, 1) := by decide +kernel
theorem d13_141 : decode prog_84_method_7_code 141 = .ok (.putfield 53, 3) := by decide +kernel
theorem d13_144 : decode prog_84_method_7_code 144 = .ok (.aload_n 0, 1) := by decide +kernel
theorem d13_145 : decode prog_84_method_7_code 145 = .ok (.dup, 1) := by decide +kernel
theorem d13_146 : decode prog_84_method_7_code 146 = .ok (.getfield 81, 3) := by decide +kernel
theorem d13_149 : decode prog_84_method_7_code 149 = .ok (.lconst 1, 1) := by decide +kernel
theorem d13_150 : decode prog_84_method_7_code 150 = .ok (.iload_n 1, 1) := by decide +kernel
theorem d13_151 : decode prog_84_method_7_code 151 = .ok (.lshl, 1) := by decide +kernel
theorem d13_152 : decode prog_84_method_7_code 152 = .ok (.lor, 1) := by decide +kernel
theorem d13_153 : decode prog_84_method_7_code 153 = .ok (.putfield 81, 3) := by decide +kernel
set_option maxRecDepth 65536 in
set_option maxHeartbeats 40000000 in
theorem rmNc (l : Launch) (Z : State) (a0 : Array Value) (hw : ∀ d ∈ tables_1, d.before a0 Z = true) (ws : List Jvm.Cond) (a : Addr) (W H : Nat) (tk : Int64) (dc : Int32) (gv fv ev : Value) (wr wc : Int64) (rb : Bool) (h0 : Heap) (n0 : Nat) (Z0 : n0 ≤ h0.size) (E_a : Exa Z h0 a "com/example/gridwright/gridwright/engine/SmallDraft") (F_0 : Fld Z h0 a "com/example/gridwright/gridwright/engine/Draft" "width" "I" (.int (Int32.ofNat W))) (F_1 : Fld Z h0 a "com/example/gridwright/gridwright/engine/Draft" "height" "I" (.int (Int32.ofNat H))) (F_2 : Fld Z h0 a "com/example/gridwright/gridwright/engine/Draft" "taken" "J" (.long tk)) (F_3 : Fld Z h0 a "com/example/gridwright/gridwright/engine/Draft" "decided" "I" (.int dc)) (F_4 : Fld Z h0 a "com/example/gridwright/gridwright/engine/SmallDraft" "grid" "Lcom/example/gridwright/gridwright/engine/Grid;" gv) (F_5 : Fld Z h0 a "com/example/gridwright/gridwright/engine/SmallDraft" "filled" "[J" fv) (F_6 : Fld Z h0 a "com/example/gridwright/gridwright/engine/SmallDraft" "empty" "[J" ev) (F_7 : Fld Z h0 a "com/example/gridwright/gridwright/engine/SmallDraft" "changedRows" "J" (.long (0 : Int64))) (F_8 : Fld Z h0 a "com/example/gridwright/gridwright/engine/SmallDraft" "changedColumns" "J" (.long (0 : Int64))) (F_9 : Fld Z h0 a "com/example/gridwright/gridwright/engine/SmallDraft" "waitingRows" "J" (.long wr)) (F_10 : Fld Z h0 a "com/example/gridwright/gridwright/engine/SmallDraft" "waitingColumns" "J" (.long wc)) (F_11 : Fld Z h0 a "com/example/gridwright/gridwright/engine/SmallDraft" "rows" "Z" (.int (bi (rb = true)))) (g_a : n0 ≤ a) (hr : ¬ wc = 0) (hc : ¬ rb = true ∨ wr = 0) :
    Ctr l Z (⟨"com/example/gridwright/gridwright/engine/SmallDraft", "next", "()I"⟩ : MethodName) prog_84_method_7_code 2 (some .int) ws ({ frames := 2, cells := 0, slots := 0, locals := 29 } : Room) 0 0 #[(.ref a)] h0 (fun v h L => v = some (.int (Int32.ofNat H + ntz wc)) ∧ Fr n0 L ∧ Keep h0 h [a] ∧ Exa Z h a "com/example/gridwright/gridwright/engine/SmallDraft" ∧ Fld Z h a "com/example/gridwright/gridwright/engine/Draft" "width" "I" (.int (Int32.ofNat W)) ∧ Fld Z h a "com/example/gridwright/gridwright/engine/Draft" "height" "I" (.int (Int32.ofNat H)) ∧ Fld Z h a "com/example/gridwright/gridwright/engine/Draft" "taken" "J" (.long (tk ||| (sh (Int32.ofNat H + ntz wc)))) ∧ Fld Z h a "com/example/gridwright/gridwright/engine/Draft" "decided" "I" (.int dc) ∧ Fld Z h a "com/example/gridwright/gridwright/engine/SmallDraft" "grid" "Lcom/example/gridwright/gridwright/engine/Grid;" gv ∧ Fld Z h a "com/example/gridwright/gridwright/engine/SmallDraft" "filled" "[J" fv ∧ Fld Z h a "com/example/gridwright/gridwright/engine/SmallDraft" "empty" "[J" ev ∧ Fld Z h a "com/example/gridwright/gridwright/engine/SmallDraft" "changedRows" "J" (.long (0 : Int64)) ∧ Fld Z h a "com/example/gridwright/gridwright/engine/SmallDraft" "changedColumns" "J" (.long (0 : Int64)) ∧ Fld Z h a "com/example/gridwright/gridwright/engine/SmallDraft" "waitingRows" "J" (.long wr) ∧ Fld Z h a "com/example/gridwright/gridwright/engine/SmallDraft" "waitingColumns" "J" (.long (wc &&& (wc - (1 : Int64)))) ∧ Fld Z h a "com/example/gridwright/gridwright/engine/SmallDraft" "rows" "Z" (.int (bi (false = true)))) := by
  refine Ctr.mk (plainFor_of_name pn_4) fun p e s m below meth c T0 X0 C e0 => go_cast (ef_rmNc m a) ?_
  have N0 := Fr.nil n0
  obtain ⟨hx, hZ, hby, hml, hown, hnm, hret, hlk⟩ := C
  obtain ⟨hI, eI⟩ : ∃ z, z = h0 := ⟨_, rfl⟩
  have K0 : Keep hI h0 [a] := by rw [eI]; exact Keep.refl _ _
  show Go _ _ _ _ _ _ _ T0 (mkF m 0 #[.val (.ref a), .unset] [])
  refine Go.step (fun tt kk => XS.aloadN X0.here hx rfl (hb hby d13_0) rfl rfl kk) ?_
  show Go _ _ _ _ _ _ _ T0 (mkF m 1 #[.val (.ref a), .unset] [(.ref a)])
  obtain ⟨T1, X1, e1, st1⟩ := getF X0 hx hZ hown (host := "") (Or.inl (hw _ (List.mem_of_getElem? (i := 92) rfl))) Via.refl e0 F_11 (g := (mkF m 1 #[.val (.ref a), .unset] [(.ref a)])) rfl rfl (hb hby d13_1)
  refine Go.step (st1) ?_
  show Go _ _ _ _ _ _ _ T1 (mkF m 4 #[.val (.ref a), .unset] [(.int (bi (rb = true)))])
  by_cases c4_2 : rb = true
  · refine Go.step (fun tt kk => XS.ifNo X1.here hx rfl (hb hby d13_4) rfl ((if0 _ _).trans (feq (bi_n c4_2)).1) kk) ?_
    show Go _ _ _ _ _ _ _ T1 (mkF m 7 #[.val (.ref a), .unset] [])
    refine Go.step (fun tt kk => XS.aloadN X1.here hx rfl (hb hby d13_7) rfl rfl kk) ?_
    show Go _ _ _ _ _ _ _ T1 (mkF m 8 #[.val (.ref a), .unset] [(.ref a)])
    obtain ⟨T3, X3, e3, st3⟩ := getF X1 hx hZ hown (host := "") (Or.inl (hw _ (List.mem_of_getElem? (i := 88) rfl))) Via.refl e1 F_9 (g := (mkF m 8 #[.val (.ref a), .unset] [(.ref a)])) rfl rfl (hb hby d13_8)
    refine Go.step (st3) ?_
    show Go _ _ _ _ _ _ _ T3 (mkF m 11 #[.val (.ref a), .unset] [(.long wr)])
    refine Go.step (fun tt kk => XS.lconst X3.here hx rfl (hb hby d13_11) kk) ?_
    show Go _ _ _ _ _ _ _ T3 (mkF m 12 #[.val (.ref a), .unset] [(.long (0 : Int64)), (.long wr)])
    refine Go.step (fun tt kk => XS.lcmp X3.here hx rfl (hb hby d13_12) rfl kk) ?_
    show Go _ _ _ _ _ _ _ T3 (mkF m 13 #[.val (.ref a), .unset] [(.int (lcmpW wr (0 : Int64)))])
    refine Go.step (fun tt kk => XS.ifNo X3.here hx rfl (hb hby d13_13) rfl ((if0 _ _).trans (teq ((lw_eq _ _).mpr (hc.resolve_left (not_not_intro c4_2)))).2) kk) ?_
    show Go _ _ _ _ _ _ _ T3 (mkF m 16 #[.val (.ref a), .unset] [])
    refine Go.step (fun tt kk => XS.goto X3.here hx rfl (pc0 := 16) (pc' := 28) rfl (hb hby d13_16) (by decide) (by decide) kk) ?_
    show Go _ _ _ _ _ _ _ T3 (mkF m 28 #[.val (.ref a), .unset] [])
    refine Go.step (fun tt kk => XS.aloadN X3.here hx rfl (hb hby d13_28) rfl rfl kk) ?_
    show Go _ _ _ _ _ _ _ T3 (mkF m 29 #[.val (.ref a), .unset] [(.ref a)])
    refine Go.step (fun tt kk => XS.aloadN X3.here hx rfl (hb hby d13_29) rfl rfl kk) ?_
    show Go _ _ _ _ _ _ _ T3 (mkF m 30 #[.val (.ref a), .unset] [(.ref a), (.ref a)])
    obtain ⟨T4, X4, e4, st4⟩ := getF X3 hx hZ hown (host := "") (Or.inl (hw _ (List.mem_of_getElem? (i := 92) rfl))) Via.refl e3 F_11 (g := (mkF m 30 #[.val (.ref a), .unset] [(.ref a), (.ref a)])) rfl rfl (hb hby d13_30)
    refine Go.step (st4) ?_
    show Go _ _ _ _ _ _ _ T4 (mkF m 33 #[.val (.ref a), .unset] [(.int (bi (rb = true))), (.ref a)])
    refine Go.step (fun tt kk => XS.ifYes X4.here hx rfl (pc0 := 33) (pc' := 40) rfl (hb hby d13_33) rfl ((if0 _ _).trans (feq (bi_n c4_2)).2) (by decide) (by decide) kk) ?_
    show Go _ _ _ _ _ _ _ T4 (mkF m 40 #[.val (.ref a), .unset] [(.ref a)])
    refine Go.step (fun tt kk => XS.iconst X4.here hx rfl (hb hby d13_40) kk) ?_
    show Go _ _ _ _ _ _ _ T4 (mkF m 41 #[.val (.ref a), .unset] [(.int (0 : Int32)), (.ref a)])
    obtain ⟨T5, h5, X5, e5, W5, st5⟩ := putFN X4 hx hZ hown (hw _ (List.mem_of_getElem? (i := 92) rfl)) Via.refl e4 F_11 E_a (Or.inl (hw _ (List.mem_of_getElem? (i := 93) rfl))) (hw _ (List.mem_of_getElem? (i := 2) rfl)) (ty := .boolean) (v' := (.int (0 : Int32))) (by decide) rfl rfl (g := (mkF m 41 #[.val (.ref a), .unset] [(.int (0 : Int32)), (.ref a)])) rfl rfl (hb hby d13_41)
    have F5 := Fld.same W5 F_11
    have N5 := Fr.snoc X5 N0 g_a
    have Z5 : n0 ≤ h5.size := Nat.le_trans Z0 (Keep.of_wr W5).1
    have K5 : Keep hI h5 [a] := K0.wr W5 (Or.inl (List.mem_of_getElem? (i := 0) rfl))
    refine Go.step (st5) ?_
    show Go _ _ _ _ _ _ _ T5 (mkF m 44 #[.val (.ref a), .unset] [])
    refine Go.step (fun tt kk => XS.iconst X5.here hx rfl (hb hby d13_44) kk) ?_
    show Go _ _ _ _ _ _ _ T5 (mkF m 45 #[.val (.ref a), .unset] [(.int (-1 : Int32))])
    refine Go.step (fun tt kk => XS.istoreN X5.here hx rfl (hb hby d13_45) rfl (l' := #[.val (.ref a), .val (.int (-1 : Int32))]) rfl kk) ?_
    show Go _ _ _ _ _ _ _ T5 (mkF m 46 #[.val (.ref a), .val (.int (-1 : Int32))] [])
    refine Go.step (fun tt kk => XS.aloadN X5.here hx rfl (hb hby d13_46) rfl rfl kk) ?_
    show Go _ _ _ _ _ _ _ T5 (mkF m 47 #[.val (.ref a), .val (.int (-1 : Int32))] [(.ref a)])
    obtain ⟨T6, X6, e6, st6⟩ := getF X5 hx hZ hown (host := "") (Or.inl (hw _ (List.mem_of_getElem? (i := 92) rfl))) Via.refl e5 F5 (g := (mkF m 47 #[.val (.ref a), .val (.int (-1 : Int32))] [(.ref a)])) rfl rfl (hb hby d13_47)
    refine Go.step (st6) ?_
    show Go _ _ _ _ _ _ _ T6 (mkF m 50 #[.val (.ref a), .val (.int (-1 : Int32))] [(.int (0 : Int32))])
    refine Go.step (fun tt kk => XS.ifYes X6.here hx rfl (pc0 := 50) (pc' := 100) rfl (hb hby d13_50) rfl ((if0 _ _).trans (teq (by decide)).1) (by decide) (by decide) kk) ?_
    show Go _ _ _ _ _ _ _ T6 (mkF m 100 #[.val (.ref a), .val (.int (-1 : Int32))] [])
    refine Go.step (fun tt kk => XS.aloadN X6.here hx rfl (hb hby d13_100) rfl rfl kk) ?_
    show Go _ _ _ _ _ _ _ T6 (mkF m 101 #[.val (.ref a), .val (.int (-1 : Int32))] [(.ref a)])
    obtain ⟨T7, X7, e7, st7⟩ := getF X6 hx hZ hown (host := "") (Or.inl (hw _ (List.mem_of_getElem? (i := 92) rfl))) Via.refl e6 F5 (g := (mkF m 101 #[.val (.ref a), .val (.int (-1 : Int32))] [(.ref a)])) rfl rfl (hb hby d13_101)
    refine Go.step (st7) ?_
    show Go _ _ _ _ _ _ _ T7 (mkF m 104 #[.val (.ref a), .val (.int (-1 : Int32))] [(.int (0 : Int32))])
    refine Go.step (fun tt kk => XS.ifNo X7.here hx rfl (hb hby d13_104) rfl ((if0 _ _).trans (teq (by decide)).2) kk) ?_
    show Go _ _ _ _ _ _ _ T7 (mkF m 107 #[.val (.ref a), .val (.int (-1 : Int32))] [])
    refine Go.step (fun tt kk => XS.aloadN X7.here hx rfl (hb hby d13_107) rfl rfl kk) ?_
    show Go _ _ _ _ _ _ _ T7 (mkF m 108 #[.val (.ref a), .val (.int (-1 : Int32))] [(.ref a)])
    have f9 := (Fld.other W5 F_10 (Or.inr (slot_ne (Or.inl (hw _ (List.mem_of_getElem? (i := 91) rfl))) (Or.inl (hw _ (List.mem_of_getElem? (i := 93) rfl))) (by decide) (t := .long) (t' := .boolean) (by decide) (by decide))))
    obtain ⟨T8, X8, e8, st8⟩ := getF X7 hx hZ hown (host := "") (Or.inl (hw _ (List.mem_of_getElem? (i := 90) rfl))) Via.refl e7 f9 (g := (mkF m 108 #[.val (.ref a), .val (.int (-1 : Int32))] [(.ref a)])) rfl rfl (hb hby d13_108)
    refine Go.step (st8) ?_
    show Go _ _ _ _ _ _ _ T8 (mkF m 111 #[.val (.ref a), .val (.int (-1 : Int32))] [(.long wc)])
    refine Go.step (fun tt kk => XS.lconst X8.here hx rfl (hb hby d13_111) kk) ?_
    show Go _ _ _ _ _ _ _ T8 (mkF m 112 #[.val (.ref a), .val (.int (-1 : Int32))] [(.long (0 : Int64)), (.long wc)])
    refine Go.step (fun tt kk => XS.lcmp X8.here hx rfl (hb hby d13_112) rfl kk) ?_
    show Go _ _ _ _ _ _ _ T8 (mkF m 113 #[.val (.ref a), .val (.int (-1 : Int32))] [(.int (lcmpW wc (0 : Int64)))])
    refine Go.step (fun tt kk => XS.ifNo X8.here hx rfl (hb hby d13_113) rfl ((if0 _ _).trans (feq (fun q => hr ((lw_eq _ _).mp q))).1) kk) ?_
    show Go _ _ _ _ _ _ _ T8 (mkF m 116 #[.val (.ref a), .val (.int (-1 : Int32))] [])
    refine Go.step (fun tt kk => XS.aloadN X8.here hx rfl (hb hby d13_116) rfl rfl kk) ?_
    show Go _ _ _ _ _ _ _ T8 (mkF m 117 #[.val (.ref a), .val (.int (-1 : Int32))] [(.ref a)])
    have f11 := (Fld.other W5 F_1 (Or.inr (slot_ne (Or.inr (hw _ (List.mem_of_getElem? (i := 18) rfl))) (Or.inl (hw _ (List.mem_of_getElem? (i := 93) rfl))) (by decide) (t := .int) (t' := .boolean) (by decide) (by decide))))
    obtain ⟨T10, X10, e10, st10⟩ := getF X8 hx hZ hown (host := "") (Or.inl (hw _ (List.mem_of_getElem? (i := 99) rfl))) (Via.of (hw _ (List.mem_of_getElem? (i := 100) rfl))) e8 f11 (g := (mkF m 117 #[.val (.ref a), .val (.int (-1 : Int32))] [(.ref a)])) rfl rfl (hb hby d13_117)
    refine Go.step (st10) ?_
    show Go _ _ _ _ _ _ _ T10 (mkF m 120 #[.val (.ref a), .val (.int (-1 : Int32))] [(.int (Int32.ofNat H))])
    refine Go.step (fun tt kk => XS.aloadN X10.here hx rfl (hb hby d13_120) rfl rfl kk) ?_
    show Go _ _ _ _ _ _ _ T10 (mkF m 121 #[.val (.ref a), .val (.int (-1 : Int32))] [(.ref a), (.int (Int32.ofNat H))])
    obtain ⟨T12, X12, e12, st12⟩ := getF X10 hx hZ hown (host := "") (Or.inl (hw _ (List.mem_of_getElem? (i := 90) rfl))) Via.refl e10 f9 (g := (mkF m 121 #[.val (.ref a), .val (.int (-1 : Int32))] [(.ref a), (.int (Int32.ofNat H))])) rfl rfl (hb hby d13_121)
    refine Go.step (st12) ?_
    show Go _ _ _ _ _ _ _ T12 (mkF m 124 #[.val (.ref a), .val (.int (-1 : Int32))] [(.long wc), (.int (Int32.ofNat H))])
    obtain ⟨v13, T13, L13, X13, q13, st13⟩ := c_static X12 hx hZ hown (y := (⟨"java/lang/Long", "numberOfTrailingZeros", "(J)I"⟩ : MethodName)) (hw _ (List.mem_of_getElem? (i := 106) rfl)) (hw _ (List.mem_of_getElem? (i := 107) rfl)) (hw _ (List.mem_of_getElem? (i := 108) rfl)) (hw _ (List.mem_of_getElem? (i := 109) rfl)) (by decide) (argsL := [(.long wc)]) (rest := [(.int (Int32.ofNat H))]) (rmtl l Z a0 hw [] wc h5 n0 Z5) e12 pd_5 rfl (by rw [hml]; rfl) (W := 1) (by show 2 * 0 + _ ≤ _; exact Nat.le_of_eq rfl) (by decide) (by decide) (by decide) (by decide) (hb hby d13_124) (Ls := #[.val (.ref a), .val (.int (-1 : Int32))])
    obtain ⟨rfl, rfl, e13⟩ := q13
    have N13 := Fr.app N5 (Fr.nil n0)
    refine Go.step (st13) ?_
    show Go _ _ _ _ _ _ _ T13 (mkF m 127 #[.val (.ref a), .val (.int (-1 : Int32))] [(.int (ntz wc)), (.int (Int32.ofNat H))])
    refine Go.step (fun tt kk => XS.iadd X13.here hx rfl (hb hby d13_127) rfl kk) ?_
    show Go _ _ _ _ _ _ _ T13 (mkF m 128 #[.val (.ref a), .val (.int (-1 : Int32))] [(.int ((Int32.ofNat H) + (ntz wc)))])
    refine Go.step (fun tt kk => XS.istoreN X13.here hx rfl (hb hby d13_128) rfl (l' := #[.val (.ref a), .val (.int ((Int32.ofNat H) + (ntz wc)))]) rfl kk) ?_
    show Go _ _ _ _ _ _ _ T13 (mkF m 129 #[.val (.ref a), .val (.int ((Int32.ofNat H) + (ntz wc)))] [])
    refine Go.step (fun tt kk => XS.aloadN X13.here hx rfl (hb hby d13_129) rfl rfl kk) ?_
    show Go _ _ _ _ _ _ _ T13 (mkF m 130 #[.val (.ref a), .val (.int ((Int32.ofNat H) + (ntz wc)))] [(.ref a)])
    refine Go.step (fun tt kk => XS.dup X13.here hx rfl (hb hby d13_130) rfl rfl kk) ?_
    show Go _ _ _ _ _ _ _ T13 (mkF m 131 #[.val (.ref a), .val (.int ((Int32.ofNat H) + (ntz wc)))] [(.ref a), (.ref a)])
    obtain ⟨T14, X14, e14, st14⟩ := getF X13 hx hZ hown (host := "") (Or.inl (hw _ (List.mem_of_getElem? (i := 90) rfl))) Via.refl e13 f9 (g := (mkF m 131 #[.val (.ref a), .val (.int ((Int32.ofNat H) + (ntz wc)))] [(.ref a), (.ref a)])) rfl rfl (hb hby d13_131)
    refine Go.step (st14) ?_
    show Go _ _ _ _ _ _ _ T14 (mkF m 134 #[.val (.ref a), .val (.int ((Int32.ofNat H) + (ntz wc)))] [(.long wc), (.ref a)])
    refine Go.step (fun tt kk => XS.aloadN X14.here hx rfl (hb hby d13_134) rfl rfl kk) ?_
    show Go _ _ _ _ _ _ _ T14 (mkF m 135 #[.val (.ref a), .val (.int ((Int32.ofNat H) + (ntz wc)))] [(.ref a), (.long wc), (.ref a)])
    obtain ⟨T15, X15, e15, st15⟩ := getF X14 hx hZ hown (host := "") (Or.inl (hw _ (List.mem_of_getElem? (i := 90) rfl))) Via.refl e14 f9 (g := (mkF m 135 #[.val (.ref a), .val (.int ((Int32.ofNat H) + (ntz wc)))] [(.ref a), (.long wc), (.ref a)])) rfl rfl (hb hby d13_135)
    refine Go.step (st15) ?_
    show Go _ _ _ _ _ _ _ T15 (mkF m 138 #[.val (.ref a), .val (.int ((Int32.ofNat H) + (ntz wc)))] [(.long wc), (.long wc), (.ref a)])
    refine Go.step (fun tt kk => XS.lconst X15.here hx rfl (hb hby d13_138) kk) ?_
    show Go _ _ _ _ _ _ _ T15 (mkF m 139 #[.val (.ref a), .val (.int ((Int32.ofNat H) + (ntz wc)))] [(.long (1 : Int64)), (.long wc), (.long wc), (.ref a)])
    refine Go.step (fun tt kk => XS.lsub X15.here hx rfl (hb hby d13_139) rfl kk) ?_
    show Go _ _ _ _ _ _ _ T15 (mkF m 140 #[.val (.ref a), .val (.int ((Int32.ofNat H) + (ntz wc)))] [(.long (wc - (1 : Int64))), (.long wc), (.ref a)])
    refine Go.step (fun tt kk => XS.land X15.here hx rfl (hb hby d13_140) rfl kk) ?_
    show Go _ _ _ _ _ _ _ T15 (mkF m 141 #[.val (.ref a), .val (.int ((Int32.ofNat H) + (ntz wc)))] [(.long (wc &&& (wc - (1 : Int64)))), (.ref a)])
    have f17 := (Exa.wr W5 E_a)
    obtain ⟨T16, h16, X16, e16, W16, st16⟩ := putF X15 hx hZ hown (host := "") (Or.inl (hw _ (List.mem_of_getElem? (i := 90) rfl))) Via.refl e15 f9 f17 (Or.inl (hw _ (List.mem_of_getElem? (i := 91) rfl))) (hw _ (List.mem_of_getElem? (i := 2) rfl)) (ty := .long) (by decide) rfl rfl (g := (mkF m 141 #[.val (.ref a), .val (.int ((Int32.ofNat H) + (ntz wc)))] [(.long (wc &&& (wc - (1 : Int64)))), (.ref a)])) rfl rfl (hb hby d13_141)
    have F16 := Fld.same W16 f9
    have N16 := Fr.snoc X16 N13 g_a
    have Z16 : n0 ≤ h16.size := Nat.le_trans Z5 (Keep.of_wr W16).1
    have K16 : Keep hI h16 [a] := K5.wr W16 (Or.inl (List.mem_of_getElem? (i := 0) rfl))
    refine Go.step (st16) ?_
    show Go _ _ _ _ _ _ _ T16 (mkF m 144 #[.val (.ref a), .val (.int ((Int32.ofNat H) + (ntz wc)))] [])
    refine Go.step (fun tt kk => XS.aloadN X16.here hx rfl (hb hby d13_144) rfl rfl kk) ?_
    show Go _ _ _ _ _ _ _ T16 (mkF m 145 #[.val (.ref a), .val (.int ((Int32.ofNat H) + (ntz wc)))] [(.ref a)])
    refine Go.step (fun tt kk => XS.dup X16.here hx rfl (hb hby d13_145) rfl rfl kk) ?_
    show Go _ _ _ _ _ _ _ T16 (mkF m 146 #[.val (.ref a), .val (.int ((Int32.ofNat H) + (ntz wc)))] [(.ref a), (.ref a)])
    have f19 := (Fld.other W16 (Fld.other W5 F_2 (Or.inr (slot_ne (Or.inl (hw _ (List.mem_of_getElem? (i := 74) rfl))) (Or.inl (hw _ (List.mem_of_getElem? (i := 93) rfl))) (by decide) (t := .long) (t' := .boolean) (by decide) (by decide)))) (Or.inr (slot_ne (Or.inl (hw _ (List.mem_of_getElem? (i := 74) rfl))) (Or.inl (hw _ (List.mem_of_getElem? (i := 91) rfl))) (by decide) (t := .long) (t' := .long) (by decide) (by decide))))
    obtain ⟨T18, X18, e18, st18⟩ := getF X16 hx hZ hown (host := "") (Or.inl (hw _ (List.mem_of_getElem? (i := 115) rfl))) (Via.of (hw _ (List.mem_of_getElem? (i := 116) rfl))) e16 f19 (g := (mkF m 146 #[.val (.ref a), .val (.int ((Int32.ofNat H) + (ntz wc)))] [(.ref a), (.ref a)])) rfl rfl (hb hby d13_146)
    refine Go.step (st18) ?_
    show Go _ _ _ _ _ _ _ T18 (mkF m 149 #[.val (.ref a), .val (.int ((Int32.ofNat H) + (ntz wc)))] [(.long tk), (.ref a)])
    refine Go.step (fun tt kk => XS.lconst X18.here hx rfl (hb hby d13_149) kk) ?_
    show Go _ _ _ _ _ _ _ T18 (mkF m 150 #[.val (.ref a), .val (.int ((Int32.ofNat H) + (ntz wc)))] [(.long (1 : Int64)), (.long tk), (.ref a)])
    refine Go.step (fun tt kk => XS.iloadN X18.here hx rfl (hb hby d13_150) rfl kk) ?_
    show Go _ _ _ _ _ _ _ T18 (mkF m 151 #[.val (.ref a), .val (.int ((Int32.ofNat H) + (ntz wc)))] [(.int ((Int32.ofNat H) + (ntz wc))), (.long (1 : Int64)), (.long tk), (.ref a)])
    refine Go.step (fun tt kk => XS.lshl X18.here hx rfl (hb hby d13_151) rfl kk) ?_
    show Go _ _ _ _ _ _ _ T18 (mkF m 152 #[.val (.ref a), .val (.int ((Int32.ofNat H) + (ntz wc)))] [(.long ((1 : Int64) <<< (((Int32.ofNat H) + (ntz wc)) &&& 0x3f).toInt64)), (.long tk), (.ref a)])
    refine Go.step (fun tt kk => XS.lor X18.here hx rfl (hb hby d13_152) rfl kk) ?_
    show Go _ _ _ _ _ _ _ T18 (mkF m 153 #[.val (.ref a), .val (.int ((Int32.ofNat H) + (ntz wc)))] [(.long (tk ||| ((1 : Int64) <<< (((Int32.ofNat H) + (ntz wc)) &&& 0x3f).toInt64))), (.ref a)])
    have f21 := (Exa.wr W16 f17)
    obtain ⟨T20, h20, X20, e20, W20, st20⟩ := putF X18 hx hZ hown (host := "") (Or.inl (hw _ (List.mem_of_getElem? (i := 115) rfl))) (Via.of (hw _ (List.mem_of_getElem? (i := 116) rfl))) e18 f19 f21 (Or.inl (hw _ (List.mem_of_getElem? (i := 74) rfl))) (hw _ (List.mem_of_getElem? (i := 2) rfl)) (ty := .long) (by decide) rfl rfl (g := (mkF m 153 #[.val (.ref a), .val (.int ((Int32.ofNat H) + (ntz wc)))] [(.long (tk ||| ((1 : Int64) <<< (((Int32.ofNat H) + (ntz wc)) &&& 0x3f).toInt64))), (.ref a)])) rfl rfl (hb hby d13_153)
    have F20 := Fld.same W20 f19
    have N20 := Fr.snoc X20 N16 g_a
    have Z20 : n0 ≤ h20.size := Nat.le_trans Z16 (Keep.of_wr W20).1
    have K20 : Keep hI h20 [a] := K16.wr W20 (Or.inl (List.mem_of_getElem? (i := 0) rfl))
    refine Go.step (st20) ?_
    show Go _ _ _ _ _ _ _ T20 (mkF m 156 #[.val (.ref a), .val (.int ((Int32.ofNat H) + (ntz wc)))] [])
    refine Go.step (fun tt kk => XS.iloadN X20.here hx rfl (hb hby d13_156) rfl kk) ?_
    show Go _ _ _ _ _ _ _ T20 (mkF m 157 #[.val (.ref a), .val (.int ((Int32.ofNat H) + (ntz wc)))] [(.int ((Int32.ofNat H) + (ntz wc)))])
    have f23 := (Fld.other W20 (Fld.other W16 F5 (Or.inr (slot_ne (Or.inl (hw _ (List.mem_of_getElem? (i := 93) rfl))) (Or.inl (hw _ (List.mem_of_getElem? (i := 91) rfl))) (by decide) (t := .boolean) (t' := .long) (by decide) (by decide)))) (Or.inr (slot_ne (Or.inl (hw _ (List.mem_of_getElem? (i := 93) rfl))) (Or.inl (hw _ (List.mem_of_getElem? (i := 74) rfl))) (by decide) (t := .boolean) (t' := .long) (by decide) (by decide))))
    have f22 : Fld Z h20 a "com/example/gridwright/gridwright/engine/SmallDraft" "rows" "Z" (.int (bi (false = true))) := by
      have q := f23
      exact q
    have f24 := (Exa.wr W20 f21)
    have f25 := (Fld.other W20 (Fld.other W16 (Fld.other W5 F_0 (Or.inr (slot_ne (Or.inr (hw _ (List.mem_of_getElem? (i := 16) rfl))) (Or.inl (hw _ (List.mem_of_getElem? (i := 93) rfl))) (by decide) (t := .int) (t' := .boolean) (by decide) (by decide)))) (Or.inr (slot_ne (Or.inr (hw _ (List.mem_of_getElem? (i := 16) rfl))) (Or.inl (hw _ (List.mem_of_getElem? (i := 91) rfl))) (by decide) (t := .int) (t' := .long) (by decide) (by decide)))) (Or.inr (slot_ne (Or.inr (hw _ (List.mem_of_getElem? (i := 16) rfl))) (Or.inl (hw _ (List.mem_of_getElem? (i := 74) rfl))) (by decide) (t := .int) (t' := .long) (by decide) (by decide))))
    have f26 := (Fld.other W20 (Fld.other W16 f11 (Or.inr (slot_ne (Or.inr (hw _ (List.mem_of_getElem? (i := 18) rfl))) (Or.inl (hw _ (List.mem_of_getElem? (i := 91) rfl))) (by decide) (t := .int) (t' := .long) (by decide) (by decide)))) (Or.inr (slot_ne (Or.inr (hw _ (List.mem_of_getElem? (i := 18) rfl))) (Or.inl (hw _ (List.mem_of_getElem? (i := 74) rfl))) (by decide) (t := .int) (t' := .long) (by decide) (by decide))))
    have f27 := (Fld.other W20 (Fld.other W16 (Fld.other W5 F_3 (Or.inr (slot_ne (Or.inl (hw _ (List.mem_of_getElem? (i := 76) rfl))) (Or.inl (hw _ (List.mem_of_getElem? (i := 93) rfl))) (by decide) (t := .int) (t' := .boolean) (by decide) (by decide)))) (Or.inr (slot_ne (Or.inl (hw _ (List.mem_of_getElem? (i := 76) rfl))) (Or.inl (hw _ (List.mem_of_getElem? (i := 91) rfl))) (by decide) (t := .int) (t' := .long) (by decide) (by decide)))) (Or.inr (slot_ne (Or.inl (hw _ (List.mem_of_getElem? (i := 76) rfl))) (Or.inl (hw _ (List.mem_of_getElem? (i := 74) rfl))) (by decide) (t := .int) (t' := .long) (by decide) (by decide))))
    have f28 := (Fld.other W20 (Fld.other W16 (Fld.other W5 F_4 (Or.inr (slot_ne (Or.inl (hw _ (List.mem_of_getElem? (i := 83) rfl))) (Or.inl (hw _ (List.mem_of_getElem? (i := 93) rfl))) (by decide) (t := (.object "com/example/gridwright/gridwright/engine/Grid")) (t' := .boolean) (by decide) (by decide)))) (Or.inr (slot_ne (Or.inl (hw _ (List.mem_of_getElem? (i := 83) rfl))) (Or.inl (hw _ (List.mem_of_getElem? (i := 91) rfl))) (by decide) (t := (.object "com/example/gridwright/gridwright/engine/Grid")) (t' := .long) (by decide) (by decide)))) (Or.inr (slot_ne (Or.inl (hw _ (List.mem_of_getElem? (i := 83) rfl))) (Or.inl (hw _ (List.mem_of_getElem? (i := 74) rfl))) (by decide) (t := (.object "com/example/gridwright/gridwright/engine/Grid")) (t' := .long) (by decide) (by decide))))
    have f29 := (Fld.other W20 (Fld.other W16 (Fld.other W5 F_5 (Or.inr (slot_ne (Or.inr (hw _ (List.mem_of_getElem? (i := 21) rfl))) (Or.inl (hw _ (List.mem_of_getElem? (i := 93) rfl))) (by decide) (t := (.array .long)) (t' := .boolean) (by decide) (by decide)))) (Or.inr (slot_ne (Or.inr (hw _ (List.mem_of_getElem? (i := 21) rfl))) (Or.inl (hw _ (List.mem_of_getElem? (i := 91) rfl))) (by decide) (t := (.array .long)) (t' := .long) (by decide) (by decide)))) (Or.inr (slot_ne (Or.inr (hw _ (List.mem_of_getElem? (i := 21) rfl))) (Or.inl (hw _ (List.mem_of_getElem? (i := 74) rfl))) (by decide) (t := (.array .long)) (t' := .long) (by decide) (by decide))))
    have f30 := (Fld.other W20 (Fld.other W16 (Fld.other W5 F_6 (Or.inr (slot_ne (Or.inr (hw _ (List.mem_of_getElem? (i := 23) rfl))) (Or.inl (hw _ (List.mem_of_getElem? (i := 93) rfl))) (by decide) (t := (.array .long)) (t' := .boolean) (by decide) (by decide)))) (Or.inr (slot_ne (Or.inr (hw _ (List.mem_of_getElem? (i := 23) rfl))) (Or.inl (hw _ (List.mem_of_getElem? (i := 91) rfl))) (by decide) (t := (.array .long)) (t' := .long) (by decide) (by decide)))) (Or.inr (slot_ne (Or.inr (hw _ (List.mem_of_getElem? (i := 23) rfl))) (Or.inl (hw _ (List.mem_of_getElem? (i := 74) rfl))) (by decide) (t := (.array .long)) (t' := .long) (by decide) (by decide))))
    have f31 := (Fld.other W20 (Fld.other W16 (Fld.other W5 F_7 (Or.inr (slot_ne (Or.inl (hw _ (List.mem_of_getElem? (i := 85) rfl))) (Or.inl (hw _ (List.mem_of_getElem? (i := 93) rfl))) (by decide) (t := .long) (t' := .boolean) (by decide) (by decide)))) (Or.inr (slot_ne (Or.inl (hw _ (List.mem_of_getElem? (i := 85) rfl))) (Or.inl (hw _ (List.mem_of_getElem? (i := 91) rfl))) (by decide) (t := .long) (t' := .long) (by decide) (by decide)))) (Or.inr (slot_ne (Or.inl (hw _ (List.mem_of_getElem? (i := 85) rfl))) (Or.inl (hw _ (List.mem_of_getElem? (i := 74) rfl))) (by decide) (t := .long) (t' := .long) (by decide) (by decide))))
    have f32 := (Fld.other W20 (Fld.other W16 (Fld.other W5 F_8 (Or.inr (slot_ne (Or.inl (hw _ (List.mem_of_getElem? (i := 87) rfl))) (Or.inl (hw _ (List.mem_of_getElem? (i := 93) rfl))) (by decide) (t := .long) (t' := .boolean) (by decide) (by decide)))) (Or.inr (slot_ne (Or.inl (hw _ (List.mem_of_getElem? (i := 87) rfl))) (Or.inl (hw _ (List.mem_of_getElem? (i := 91) rfl))) (by decide) (t := .long) (t' := .long) (by decide) (by decide)))) (Or.inr (slot_ne (Or.inl (hw _ (List.mem_of_getElem? (i := 87) rfl))) (Or.inl (hw _ (List.mem_of_getElem? (i := 74) rfl))) (by decide) (t := .long) (t' := .long) (by decide) (by decide))))
    have f33 := (Fld.other W20 (Fld.other W16 (Fld.other W5 F_9 (Or.inr (slot_ne (Or.inl (hw _ (List.mem_of_getElem? (i := 89) rfl))) (Or.inl (hw _ (List.mem_of_getElem? (i := 93) rfl))) (by decide) (t := .long) (t' := .boolean) (by decide) (by decide)))) (Or.inr (slot_ne (Or.inl (hw _ (List.mem_of_getElem? (i := 89) rfl))) (Or.inl (hw _ (List.mem_of_getElem? (i := 91) rfl))) (by decide) (t := .long) (t' := .long) (by decide) (by decide)))) (Or.inr (slot_ne (Or.inl (hw _ (List.mem_of_getElem? (i := 89) rfl))) (Or.inl (hw _ (List.mem_of_getElem? (i := 74) rfl))) (by decide) (t := .long) (t' := .long) (by decide) (by decide))))
    have f34 := (Fld.other W20 F16 (Or.inr (slot_ne (Or.inl (hw _ (List.mem_of_getElem? (i := 91) rfl))) (Or.inl (hw _ (List.mem_of_getElem? (i := 74) rfl))) (by decide) (t := .long) (t' := .long) (by decide) (by decide))))
    refine go_retI X20 hx hret hlk (hb hby d13_157) ?_ (by decide) (by decide)
    try rw [e20]
    exact ⟨rfl, N20, eI ▸ K20, f24, f25, f26, F20, f27, f28, f29, f30, f31, f32, f33, f34, f22⟩
  · refine Go.step (fun tt kk => XS.ifYes X1.here hx rfl (pc0 := 4) (pc' := 19) rfl (hb hby d13_4) rfl ((if0 _ _).trans (teq (bi_f c4_2)).1) (by decide) (by decide) kk) ?_
    show Go _ _ _ _ _ _ _ T1 (mkF m 19 #[.val (.ref a), .unset] [])
    refine Go.step (fun tt kk => XS.aloadN X1.here hx rfl (hb hby d13_19) rfl rfl kk) ?_
    show Go _ _ _ _ _ _ _ T1 (mkF m 20 #[.val (.ref a), .unset] [(.ref a)])
    obtain ⟨T35, X35, e35, st35⟩ := getF X1 hx hZ hown (host := "") (Or.inl (hw _ (List.mem_of_getElem? (i := 90) rfl))) Via.refl e1 F_10 (g := (mkF m 20 #[.val (.ref a), .unset] [(.ref a)])) rfl rfl (hb hby d13_20)
    refine Go.step (st35) ?_
    show Go _ _ _ _ _ _ _ T35 (mkF m 23 #[.val (.ref a), .unset] [(.long wc)])
    refine Go.step (fun tt kk => XS.lconst X35.here hx rfl (hb hby d13_23) kk) ?_
    show Go _ _ _ _ _ _ _ T35 (mkF m 24 #[.val (.ref a), .unset] [(.long (0 : Int64)), (.long wc)])
    refine Go.step (fun tt kk => XS.lcmp X35.here hx rfl (hb hby d13_24) rfl kk) ?_
    show Go _ _ _ _ _ _ _ T35 (mkF m 25 #[.val (.ref a), .unset] [(.int (lcmpW wc (0 : Int64)))])
    refine Go.step (fun tt kk => XS.ifYes X35.here hx rfl (pc0 := 25) (pc' := 44) rfl (hb hby d13_25) rfl ((if0 _ _).trans (feq (fun q => hr ((lw_eq _ _).mp q))).2) (by decide) (by decide) kk) ?_
    show Go _ _ _ _ _ _ _ T35 (mkF m 44 #[.val (.ref a), .unset] [])
    refine Go.step (fun tt kk => XS.iconst X35.here hx rfl (hb hby d13_44) kk) ?_
    show Go _ _ _ _ _ _ _ T35 (mkF m 45 #[.val (.ref a), .unset] [(.int (-1 : Int32))])
    refine Go.step (fun tt kk => XS.istoreN X35.here hx rfl (hb hby d13_45) rfl (l' := #[.val (.ref a), .val (.int (-1 : Int32))]) rfl kk) ?_
    show Go _ _ _ _ _ _ _ T35 (mkF m 46 #[.val (.ref a), .val (.int (-1 : Int32))] [])
    refine Go.step (fun tt kk => XS.aloadN X35.here hx rfl (hb hby d13_46) rfl rfl kk) ?_
    show Go _ _ _ _ _ _ _ T35 (mkF m 47 #[.val (.ref a), .val (.int (-1 : Int32))] [(.ref a)])
    obtain ⟨T36, X36, e36, st36⟩ := getF X35 hx hZ hown (host := "") (Or.inl (hw _ (List.mem_of_getElem? (i := 92) rfl))) Via.refl e35 F_11 (g := (mkF m 47 #[.val (.ref a), .val (.int (-1 : Int32))] [(.ref a)])) rfl rfl (hb hby d13_47)
    refine Go.step (st36) ?_
    show Go _ _ _ _ _ _ _ T36 (mkF m 50 #[.val (.ref a), .val (.int (-1 : Int32))] [(.int (bi (rb = true)))])
    refine Go.step (fun tt kk => XS.ifYes X36.here hx rfl (pc0 := 50) (pc' := 100) rfl (hb hby d13_50) rfl ((if0 _ _).trans (teq (bi_f c4_2)).1) (by decide) (by decide) kk) ?_
    show Go _ _ _ _ _ _ _ T36 (mkF m 100 #[.val (.ref a), .val (.int (-1 : Int32))] [])
    refine Go.step (fun tt kk => XS.aloadN X36.here hx rfl (hb hby d13_100) rfl rfl kk) ?_
    show Go _ _ _ _ _ _ _ T36 (mkF m 101 #[.val (.ref a), .val (.int (-1 : Int32))] [(.ref a)])
    obtain ⟨T37, X37, e37, st37⟩ := getF X36 hx hZ hown (host := "") (Or.inl (hw _ (List.mem_of_getElem? (i := 92) rfl))) Via.refl e36 F_11 (g := (mkF m 101 #[.val (.ref a), .val (.int (-1 : Int32))] [(.ref a)])) rfl rfl (hb hby d13_101)
    refine Go.step (st37) ?_
    show Go _ _ _ _ _ _ _ T37 (mkF m 104 #[.val (.ref a), .val (.int (-1 : Int32))] [(.int (bi (rb = true)))])
    refine Go.step (fun tt kk => XS.ifNo X37.here hx rfl (hb hby d13_104) rfl ((if0 _ _).trans (teq (bi_f c4_2)).2) kk) ?_
    show Go _ _ _ _ _ _ _ T37 (mkF m 107 #[.val (.ref a), .val (.int (-1 : Int32))] [])
    refine Go.step (fun tt kk => XS.aloadN X37.here hx rfl (hb hby d13_107) rfl rfl kk) ?_
    show Go _ _ _ _ _ _ _ T37 (mkF m 108 #[.val (.ref a), .val (.int (-1 : Int32))] [(.ref a)])
    obtain ⟨T38, X38, e38, st38⟩ := getF X37 hx hZ hown (host := "") (Or.inl (hw _ (List.mem_of_getElem? (i := 90) rfl))) Via.refl e37 F_10 (g := (mkF m 108 #[.val (.ref a), .val (.int (-1 : Int32))] [(.ref a)])) rfl rfl (hb hby d13_108)
    refine Go.step (st38) ?_
    show Go _ _ _ _ _ _ _ T38 (mkF m 111 #[.val (.ref a), .val (.int (-1 : Int32))] [(.long wc)])
    refine Go.step (fun tt kk => XS.lconst X38.here hx rfl (hb hby d13_111) kk) ?_
    show Go _ _ _ _ _ _ _ T38 (mkF m 112 #[.val (.ref a), .val (.int (-1 : Int32))] [(.long (0 : Int64)), (.long wc)])
    refine Go.step (fun tt kk => XS.lcmp X38.here hx rfl (hb hby d13_112) rfl kk) ?_
    show Go _ _ _ _ _ _ _ T38 (mkF m 113 #[.val (.ref a), .val (.int (-1 : Int32))] [(.int (lcmpW wc (0 : Int64)))])
    refine Go.step (fun tt kk => XS.ifNo X38.here hx rfl (hb hby d13_113) rfl ((if0 _ _).trans (feq (fun q => hr ((lw_eq _ _).mp q))).1) kk) ?_
    show Go _ _ _ _ _ _ _ T38 (mkF m 116 #[.val (.ref a), .val (.int (-1 : Int32))] [])
    refine Go.step (fun tt kk => XS.aloadN X38.here hx rfl (hb hby d13_116) rfl rfl kk) ?_
    show Go _ _ _ _ _ _ _ T38 (mkF m 117 #[.val (.ref a), .val (.int (-1 : Int32))] [(.ref a)])
    obtain ⟨T39, X39, e39, st39⟩ := getF X38 hx hZ hown (host := "") (Or.inl (hw _ (List.mem_of_getElem? (i := 99) rfl))) (Via.of (hw _ (List.mem_of_getElem? (i := 100) rfl))) e38 F_1 (g := (mkF m 117 #[.val (.ref a), .val (.int (-1 : Int32))] [(.ref a)])) rfl rfl (hb hby d13_117)
    refine Go.step (st39) ?_
    show Go _ _ _ _ _ _ _ T39 (mkF m 120 #[.val (.ref a), .val (.int (-1 : Int32))] [(.int (Int32.ofNat H))])
    refine Go.step (fun tt kk => XS.aloadN X39.here hx rfl (hb hby d13_120) rfl rfl kk) ?_
    show Go _ _ _ _ _ _ _ T39 (mkF m 121 #[.val (.ref a), .val (.int (-1 : Int32))] [(.ref a), (.int (Int32.ofNat H))])
    obtain ⟨T40, X40, e40, st40⟩ := getF X39 hx hZ hown (host := "") (Or.inl (hw _ (List.mem_of_getElem? (i := 90) rfl))) Via.refl e39 F_10 (g := (mkF m 121 #[.val (.ref a), .val (.int (-1 : Int32))] [(.ref a), (.int (Int32.ofNat H))])) rfl rfl (hb hby d13_121)
    refine Go.step (st40) ?_
    show Go _ _ _ _ _ _ _ T40 (mkF m 124 #[.val (.ref a), .val (.int (-1 : Int32))] [(.long wc), (.int (Int32.ofNat H))])
    obtain ⟨v41, T41, L41, X41, q41, st41⟩ := c_static X40 hx hZ hown (y := (⟨"java/lang/Long", "numberOfTrailingZeros", "(J)I"⟩ : MethodName)) (hw _ (List.mem_of_getElem? (i := 106) rfl)) (hw _ (List.mem_of_getElem? (i := 107) rfl)) (hw _ (List.mem_of_getElem? (i := 108) rfl)) (hw _ (List.mem_of_getElem? (i := 109) rfl)) (by decide) (argsL := [(.long wc)]) (rest := [(.int (Int32.ofNat H))]) (rmtl l Z a0 hw [] wc h0 n0 Z0) e40 pd_5 rfl (by rw [hml]; rfl) (W := 1) (by show 2 * 0 + _ ≤ _; exact Nat.le_of_eq rfl) (by decide) (by decide) (by decide) (by decide) (hb hby d13_124) (Ls := #[.val (.ref a), .val (.int (-1 : Int32))])
    obtain ⟨rfl, rfl, e41⟩ := q41
    have N41 := Fr.app N0 (Fr.nil n0)
    refine Go.step (st41) ?_
    show Go _ _ _ _ _ _ _ T41 (mkF m 127 #[.val (.ref a), .val (.int (-1 : Int32))] [(.int (ntz wc)), (.int (Int32.ofNat H))])
    refine Go.step (fun tt kk => XS.iadd X41.here hx rfl (hb hby d13_127) rfl kk) ?_
    show Go _ _ _ _ _ _ _ T41 (mkF m 128 #[.val (.ref a), .val (.int (-1 : Int32))] [(.int ((Int32.ofNat H) + (ntz wc)))])
    refine Go.step (fun tt kk => XS.istoreN X41.here hx rfl (hb hby d13_128) rfl (l' := #[.val (.ref a), .val (.int ((Int32.ofNat H) + (ntz wc)))]) rfl kk) ?_
    show Go _ _ _ _ _ _ _ T41 (mkF m 129 #[.val (.ref a), .val (.int ((Int32.ofNat H) + (ntz wc)))] [])
    refine Go.step (fun tt kk => XS.aloadN X41.here hx rfl (hb hby d13_129) rfl rfl kk) ?_
    show Go _ _ _ _ _ _ _ T41 (mkF m 130 #[.val (.ref a), .val (.int ((Int32.ofNat H) + (ntz wc)))] [(.ref a)])
    refine Go.step (fun tt kk => XS.dup X41.here hx rfl (hb hby d13_130) rfl rfl kk) ?_
    show Go _ _ _ _ _ _ _ T41 (mkF m 131 #[.val (.ref a), .val (.int ((Int32.ofNat H) + (ntz wc)))] [(.ref a), (.ref a)])
    obtain ⟨T42, X42, e42, st42⟩ := getF X41 hx hZ hown (host := "") (Or.inl (hw _ (List.mem_of_getElem? (i := 90) rfl))) Via.refl e41 F_10 (g := (mkF m 131 #[.val (.ref a), .val (.int ((Int32.ofNat H) + (ntz wc)))] [(.ref a), (.ref a)])) rfl rfl (hb hby d13_131)
    refine Go.step (st42) ?_
    show Go _ _ _ _ _ _ _ T42 (mkF m 134 #[.val (.ref a), .val (.int ((Int32.ofNat H) + (ntz wc)))] [(.long wc), (.ref a)])
    refine Go.step (fun tt kk => XS.aloadN X42.here hx rfl (hb hby d13_134) rfl rfl kk) ?_
    show Go _ _ _ _ _ _ _ T42 (mkF m 135 #[.val (.ref a), .val (.int ((Int32.ofNat H) + (ntz wc)))] [(.ref a), (.long wc), (.ref a)])
    obtain ⟨T43, X43, e43, st43⟩ := getF X42 hx hZ hown (host := "") (Or.inl (hw _ (List.mem_of_getElem? (i := 90) rfl))) Via.refl e42 F_10 (g := (mkF m 135 #[.val (.ref a), .val (.int ((Int32.ofNat H) + (ntz wc)))] [(.ref a), (.long wc), (.ref a)])) rfl rfl (hb hby d13_135)
    refine Go.step (st43) ?_
    show Go _ _ _ _ _ _ _ T43 (mkF m 138 #[.val (.ref a), .val (.int ((Int32.ofNat H) + (ntz wc)))] [(.long wc), (.long wc), (.ref a)])
    refine Go.step (fun tt kk => XS.lconst X43.here hx rfl (hb hby d13_138) kk) ?_
    show Go _ _ _ _ _ _ _ T43 (mkF m 139 #[.val (.ref a), .val (.int ((Int32.ofNat H) + (ntz wc)))] [(.long (1 : Int64)), (.long wc), (.long wc), (.ref a)])
    refine Go.step (fun tt kk => XS.lsub X43.here hx rfl (hb hby d13_139) rfl kk) ?_
    show Go _ _ _ _ _ _ _ T43 (mkF m 140 #[.val (.ref a), .val (.int ((Int32.ofNat H) + (ntz wc)))] [(.long (wc - (1 : Int64))), (.long wc), (.ref a)])
    refine Go.step (fun tt kk => XS.land X43.here hx rfl (hb hby d13_140) rfl kk) ?_
    show Go _ _ _ _ _ _ _ T43 (mkF m 141 #[.val (.ref a), .val (.int ((Int32.ofNat H) + (ntz wc)))] [(.long (wc &&& (wc - (1 : Int64)))), (.ref a)])
    obtain ⟨T44, h44, X44, e44, W44, st44⟩ := putF X43 hx hZ hown (host := "") (Or.inl (hw _ (List.mem_of_getElem? (i := 90) rfl))) Via.refl e43 F_10 E_a (Or.inl (hw _ (List.mem_of_getElem? (i := 91) rfl))) (hw _ (List.mem_of_getElem? (i := 2) rfl)) (ty := .long) (by decide) rfl rfl (g := (mkF m 141 #[.val (.ref a), .val (.int ((Int32.ofNat H) + (ntz wc)))] [(.long (wc &&& (wc - (1 : Int64)))), (.ref a)])) rfl rfl (hb hby d13_141)
    have F44 := Fld.same W44 F_10
    have N44 := Fr.snoc X44 N41 g_a
    have Z44 : n0 ≤ h44.size := Nat.le_trans Z0 (Keep.of_wr W44).1
    have K44 : Keep hI h44 [a] := K0.wr W44 (Or.inl (List.mem_of_getElem? (i := 0) rfl))
    refine Go.step (st44) ?_
    show Go _ _ _ _ _ _ _ T44 (mkF m 144 #[.val (.ref a), .val (.int ((Int32.ofNat H) + (ntz wc)))] [])
    refine Go.step (fun tt kk => XS.aloadN X44.here hx rfl (hb hby d13_144) rfl rfl kk) ?_
    show Go _ _ _ _ _ _ _ T44 (mkF m 145 #[.val (.ref a), .val (.int ((Int32.ofNat H) + (ntz wc)))] [(.ref a)])
    refine Go.step (fun tt kk => XS.dup X44.here hx rfl (hb hby d13_145) rfl rfl kk) ?_
    show Go _ _ _ _ _ _ _ T44 (mkF m 146 #[.val (.ref a), .val (.int ((Int32.ofNat H) + (ntz wc)))] [(.ref a), (.ref a)])
    have f46 := (Fld.other W44 F_2 (Or.inr (slot_ne (Or.inl (hw _ (List.mem_of_getElem? (i := 74) rfl))) (Or.inl (hw _ (List.mem_of_getElem? (i := 91) rfl))) (by decide) (t := .long) (t' := .long) (by decide) (by decide))))
    obtain ⟨T45, X45, e45, st45⟩ := getF X44 hx hZ hown (host := "") (Or.inl (hw _ (List.mem_of_getElem? (i := 115) rfl))) (Via.of (hw _ (List.mem_of_getElem? (i := 116) rfl))) e44 f46 (g := (mkF m 146 #[.val (.ref a), .val (.int ((Int32.ofNat H) + (ntz wc)))] [(.ref a), (.ref a)])) rfl rfl (hb hby d13_146)
    refine Go.step (st45) ?_
    show Go _ _ _ _ _ _ _ T45 (mkF m 149 #[.val (.ref a), .val (.int ((Int32.ofNat H) + (ntz wc)))] [(.long tk), (.ref a)])
    refine Go.step (fun tt kk => XS.lconst X45.here hx rfl (hb hby d13_149) kk) ?_
    show Go _ _ _ _ _ _ _ T45 (mkF m 150 #[.val (.ref a), .val (.int ((Int32.ofNat H) + (ntz wc)))] [(.long (1 : Int64)), (.long tk), (.ref a)])
    refine Go.step (fun tt kk => XS.iloadN X45.here hx rfl (hb hby d13_150) rfl kk) ?_
    show Go _ _ _ _ _ _ _ T45 (mkF m 151 #[.val (.ref a), .val (.int ((Int32.ofNat H) + (ntz wc)))] [(.int ((Int32.ofNat H) + (ntz wc))), (.long (1 : Int64)), (.long tk), (.ref a)])
    refine Go.step (fun tt kk => XS.lshl X45.here hx rfl (hb hby d13_151) rfl kk) ?_
    show Go _ _ _ _ _ _ _ T45 (mkF m 152 #[.val (.ref a), .val (.int ((Int32.ofNat H) + (ntz wc)))] [(.long ((1 : Int64) <<< (((Int32.ofNat H) + (ntz wc)) &&& 0x3f).toInt64)), (.long tk), (.ref a)])
    refine Go.step (fun tt kk => XS.lor X45.here hx rfl (hb hby d13_152) rfl kk) ?_
    show Go _ _ _ _ _ _ _ T45 (mkF m 153 #[.val (.ref a), .val (.int ((Int32.ofNat H) + (ntz wc)))] [(.long (tk ||| ((1 : Int64) <<< (((Int32.ofNat H) + (ntz wc)) &&& 0x3f).toInt64))), (.ref a)])
    have f48 := (Exa.wr W44 E_a)
    obtain ⟨T47, h47, X47, e47, W47, st47⟩ := putF X45 hx hZ hown (host := "") (Or.inl (hw _ (List.mem_of_getElem? (i := 115) rfl))) (Via.of (hw _ (List.mem_of_getElem? (i := 116) rfl))) e45 f46 f48 (Or.inl (hw _ (List.mem_of_getElem? (i := 74) rfl))) (hw _ (List.mem_of_getElem? (i := 2) rfl)) (ty := .long) (by decide) rfl rfl (g := (mkF m 153 #[.val (.ref a), .val (.int ((Int32.ofNat H) + (ntz wc)))] [(.long (tk ||| ((1 : Int64) <<< (((Int32.ofNat H) + (ntz wc)) &&& 0x3f).toInt64))), (.ref a)])) rfl rfl (hb hby d13_153)
    have F47 := Fld.same W47 f46
    have N47 := Fr.snoc X47 N44 g_a
    have Z47 : n0 ≤ h47.size := Nat.le_trans Z44 (Keep.of_wr W47).1
    have K47 : Keep hI h47 [a] := K44.wr W47 (Or.inl (List.mem_of_getElem? (i := 0) rfl))
    refine Go.step (st47) ?_
    show Go _ _ _ _ _ _ _ T47 (mkF m 156 #[.val (.ref a), .val (.int ((Int32.ofNat H) + (ntz wc)))] [])
    refine Go.step (fun tt kk => XS.iloadN X47.here hx rfl (hb hby d13_156) rfl kk) ?_
    show Go _ _ _ _ _ _ _ T47 (mkF m 157 #[.val (.ref a), .val (.int ((Int32.ofNat H) + (ntz wc)))] [(.int ((Int32.ofNat H) + (ntz wc)))])
    have f50 := (Fld.other W47 (Fld.other W44 F_11 (Or.inr (slot_ne (Or.inl (hw _ (List.mem_of_getElem? (i := 93) rfl))) (Or.inl (hw _ (List.mem_of_getElem? (i := 91) rfl))) (by decide) (t := .boolean) (t' := .long) (by decide) (by decide)))) (Or.inr (slot_ne (Or.inl (hw _ (List.mem_of_getElem? (i := 93) rfl))) (Or.inl (hw _ (List.mem_of_getElem? (i := 74) rfl))) (by decide) (t := .boolean) (t' := .long) (by decide) (by decide))))
    have f49 : Fld Z h47 a "com/example/gridwright/gridwright/engine/SmallDraft" "rows" "Z" (.int (bi (false = true))) := by
      have q := f50
      have e : rb = false := (Bool.not_eq_true _).mp c4_2
      subst e
      exact q
    have f51 := (Exa.wr W47 f48)
    have f52 := (Fld.other W47 (Fld.other W44 F_0 (Or.inr (slot_ne (Or.inr (hw _ (List.mem_of_getElem? (i := 16) rfl))) (Or.inl (hw _ (List.mem_of_getElem? (i := 91) rfl))) (by decide) (t := .int) (t' := .long) (by decide) (by decide)))) (Or.inr (slot_ne (Or.inr (hw _ (List.mem_of_getElem? (i := 16) rfl))) (Or.inl (hw _ (List.mem_of_getElem? (i := 74) rfl))) (by decide) (t := .int) (t' := .long) (by decide) (by decide))))
    have f53 := (Fld.other W47 (Fld.other W44 F_1 (Or.inr (slot_ne (Or.inr (hw _ (List.mem_of_getElem? (i := 18) rfl))) (Or.inl (hw _ (List.mem_of_getElem? (i := 91) rfl))) (by decide) (t := .int) (t' := .long) (by decide) (by decide)))) (Or.inr (slot_ne (Or.inr (hw _ (List.mem_of_getElem? (i := 18) rfl))) (Or.inl (hw _ (List.mem_of_getElem? (i := 74) rfl))) (by decide) (t := .int) (t' := .long) (by decide) (by decide))))
    have f54 := (Fld.other W47 (Fld.other W44 F_3 (Or.inr (slot_ne (Or.inl (hw _ (List.mem_of_getElem? (i := 76) rfl))) (Or.inl (hw _ (List.mem_of_getElem? (i := 91) rfl))) (by decide) (t := .int) (t' := .long) (by decide) (by decide)))) (Or.inr (slot_ne (Or.inl (hw _ (List.mem_of_getElem? (i := 76) rfl))) (Or.inl (hw _ (List.mem_of_getElem? (i := 74) rfl))) (by decide) (t := .int) (t' := .long) (by decide) (by decide))))
    have f55 := (Fld.other W47 (Fld.other W44 F_4 (Or.inr (slot_ne (Or.inl (hw _ (List.mem_of_getElem? (i := 83) rfl))) (Or.inl (hw _ (List.mem_of_getElem? (i := 91) rfl))) (by decide) (t := (.object "com/example/gridwright/gridwright/engine/Grid")) (t' := .long) (by decide) (by decide)))) (Or.inr (slot_ne (Or.inl (hw _ (List.mem_of_getElem? (i := 83) rfl))) (Or.inl (hw _ (List.mem_of_getElem? (i := 74) rfl))) (by decide) (t := (.object "com/example/gridwright/gridwright/engine/Grid")) (t' := .long) (by decide) (by decide))))
    have f56 := (Fld.other W47 (Fld.other W44 F_5 (Or.inr (slot_ne (Or.inr (hw _ (List.mem_of_getElem? (i := 21) rfl))) (Or.inl (hw _ (List.mem_of_getElem? (i := 91) rfl))) (by decide) (t := (.array .long)) (t' := .long) (by decide) (by decide)))) (Or.inr (slot_ne (Or.inr (hw _ (List.mem_of_getElem? (i := 21) rfl))) (Or.inl (hw _ (List.mem_of_getElem? (i := 74) rfl))) (by decide) (t := (.array .long)) (t' := .long) (by decide) (by decide))))
    have f57 := (Fld.other W47 (Fld.other W44 F_6 (Or.inr (slot_ne (Or.inr (hw _ (List.mem_of_getElem? (i := 23) rfl))) (Or.inl (hw _ (List.mem_of_getElem? (i := 91) rfl))) (by decide) (t := (.array .long)) (t' := .long) (by decide) (by decide)))) (Or.inr (slot_ne (Or.inr (hw _ (List.mem_of_getElem? (i := 23) rfl))) (Or.inl (hw _ (List.mem_of_getElem? (i := 74) rfl))) (by decide) (t := (.array .long)) (t' := .long) (by decide) (by decide))))
    have f58 := (Fld.other W47 (Fld.other W44 F_7 (Or.inr (slot_ne (Or.inl (hw _ (List.mem_of_getElem? (i := 85) rfl))) (Or.inl (hw _ (List.mem_of_getElem? (i := 91) rfl))) (by decide) (t := .long) (t' := .long) (by decide) (by decide)))) (Or.inr (slot_ne (Or.inl (hw _ (List.mem_of_getElem? (i := 85) rfl))) (Or.inl (hw _ (List.mem_of_getElem? (i := 74) rfl))) (by decide) (t := .long) (t' := .long) (by decide) (by decide))))
    have f59 := (Fld.other W47 (Fld.other W44 F_8 (Or.inr (slot_ne (Or.inl (hw _ (List.mem_of_getElem? (i := 87) rfl))) (Or.inl (hw _ (List.mem_of_getElem? (i := 91) rfl))) (by decide) (t := .long) (t' := .long) (by decide) (by decide)))) (Or.inr (slot_ne (Or.inl (hw _ (List.mem_of_getElem? (i := 87) rfl))) (Or.inl (hw _ (List.mem_of_getElem? (i := 74) rfl))) (by decide) (t := .long) (t' := .long) (by decide) (by decide))))
    have f60 := (Fld.other W47 (Fld.other W44 F_9 (Or.inr (slot_ne (Or.inl (hw _ (List.mem_of_getElem? (i := 89) rfl))) (Or.inl (hw _ (List.mem_of_getElem? (i := 91) rfl))) (by decide) (t := .long) (t' := .long) (by decide) (by decide)))) (Or.inr (slot_ne (Or.inl (hw _ (List.mem_of_getElem? (i := 89) rfl))) (Or.inl (hw _ (List.mem_of_getElem? (i := 74) rfl))) (by decide) (t := .long) (t' := .long) (by decide) (by decide))))
    have f61 := (Fld.other W47 F44 (Or.inr (slot_ne (Or.inl (hw _ (List.mem_of_getElem? (i := 91) rfl))) (Or.inl (hw _ (List.mem_of_getElem? (i := 74) rfl))) (by decide) (t := .long) (t' := .long) (by decide) (by decide))))
    refine go_retI X47 hx hret hlk (hb hby d13_157) ?_ (by decide) (by decide)
    try rw [e47]
    exact ⟨rfl, N47, eI ▸ K47, f51, f52, f53, F47, f54, f55, f56, f57, f58, f59, f60, f61, f49⟩
theorem ef_rmNn (m : MethodId) (x0 : Addr) : entryFrame m #[(.ref x0)] 2 = mkF m 0 #[.val (.ref x0), .unset] [] := by first | (simp [entryFrame, mkF, argsToLocals, Value.category]; done) | rfl
set_option maxRecDepth 65536 in
set_option maxHeartbeats 40000000 in
theorem rmNn (l : Launch) (Z : State) (a0 : Array Value) (hw : ∀ d ∈ tables_1, d.before a0 Z = true) (ws : List Jvm.Cond) (a : Addr) (W H : Nat) (tk : Int64) (dc : Int32) (gv fv ev : Value) (wr wc : Int64) (rb : Bool) (h0 : Heap) (n0 : Nat) (Z0 : n0 ≤ h0.size) (E_a : Exa Z h0 a "com/example/gridwright/gridwright/engine/SmallDraft") (F_0 : Fld Z h0 a "com/example/gridwright/gridwright/engine/Draft" "width" "I" (.int (Int32.ofNat W))) (F_1 : Fld Z h0 a "com/example/gridwright/gridwright/engine/Draft" "height" "I" (.int (Int32.ofNat H))) (F_2 : Fld Z h0 a "com/example/gridwright/gridwright/engine/Draft" "taken" "J" (.long tk)) (F_3 : Fld Z h0 a "com/example/gridwright/gridwright/engine/Draft" "decided" "I" (.int dc)) (F_4 : Fld Z h0 a "com/example/gridwright/gridwright/engine/SmallDraft" "grid" "Lcom/example/gridwright/gridwright/engine/Grid;" gv) (F_5 : Fld Z h0 a "com/example/gridwright/gridwright/engine/SmallDraft" "filled" "[J" fv) (F_6 : Fld Z h0 a "com/example/gridwright/gridwright/engine/SmallDraft" "empty" "[J" ev) (F_7 : Fld Z h0 a "com/example/gridwright/gridwright/engine/SmallDraft" "changedRows" "J" (.long (0 : Int64))) (F_8 : Fld Z h0 a "com/example/gridwright/gridwright/engine/SmallDraft" "changedColumns" "J" (.long (0 : Int64))) (F_9 : Fld Z h0 a "com/example/gridwright/gridwright/engine/SmallDraft" "waitingRows" "J" (.long wr)) (F_10 : Fld Z h0 a "com/example/gridwright/gridwright/engine/SmallDraft" "waitingColumns" "J" (.long wc)) (F_11 : Fld Z h0 a "com/example/gridwright/gridwright/engine/SmallDraft" "rows" "Z" (.int (bi (rb = true)))) (g_a : n0 ≤ a) (hr : wr = 0) (hc : wc = 0) :
    Ctr l Z (⟨"com/example/gridwright/gridwright/engine/SmallDraft", "next", "()I"⟩ : MethodName) prog_84_method_7_code 2 (some .int) ws ({ frames := 0, cells := 0, slots := 0, locals := 0 } : Room) 0 0 #[(.ref a)] h0 (fun v h L => v = some (.int (-1 : Int32)) ∧ Fr n0 L ∧ Keep h0 h [a] ∧ Exa Z h a "com/example/gridwright/gridwright/engine/SmallDraft" ∧ Fld Z h a "com/example/gridwright/gridwright/engine/Draft" "width" "I" (.int (Int32.ofNat W)) ∧ Fld Z h a "com/example/gridwright/gridwright/engine/Draft" "height" "I" (.int (Int32.ofNat H)) ∧ Fld Z h a "com/example/gridwright/gridwright/engine/Draft" "taken" "J" (.long tk) ∧ Fld Z h a "com/example/gridwright/gridwright/engine/Draft" "decided" "I" (.int dc) ∧ Fld Z h a "com/example/gridwright/gridwright/engine/SmallDraft" "grid" "Lcom/example/gridwright/gridwright/engine/Grid;" gv ∧ Fld Z h a "com/example/gridwright/gridwright/engine/SmallDraft" "filled" "[J" fv ∧ Fld Z h a "com/example/gridwright/gridwright/engine/SmallDraft" "empty" "[J" ev ∧ Fld Z h a "com/example/gridwright/gridwright/engine/SmallDraft" "changedRows" "J" (.long (0 : Int64)) ∧ Fld Z h a "com/example/gridwright/gridwright/engine/SmallDraft" "changedColumns" "J" (.long (0 : Int64)) ∧ Fld Z h a "com/example/gridwright/gridwright/engine/SmallDraft" "waitingRows" "J" (.long wr) ∧ Fld Z h a "com/example/gridwright/gridwright/engine/SmallDraft" "waitingColumns" "J" (.long wc) ∧ Fld Z h a "com/example/gridwright/gridwright/engine/SmallDraft" "rows" "Z" (.int (bi ((!rb) = true)))) := by
  refine Ctr.mk (plainFor_of_name pn_4) fun p e s m below meth c T0 X0 C e0 => go_cast (ef_rmNn m a) ?_
  have N0 := Fr.nil n0
  obtain ⟨hx, hZ, hby, hml, hown, hnm, hret, hlk⟩ := C
  obtain ⟨hI, eI⟩ : ∃ z, z = h0 := ⟨_, rfl⟩
  have K0 : Keep hI h0 [a] := by rw [eI]; exact Keep.refl _ _
  show Go _ _ _ _ _ _ _ T0 (mkF m 0 #[.val (.ref a), .unset] [])
  refine Go.step (fun tt kk => XS.aloadN X0.here hx rfl (hb hby d13_0) rfl rfl kk) ?_
  show Go _ _ _ _ _ _ _ T0 (mkF m 1 #[.val (.ref a), .unset] [(.ref a)])
  obtain ⟨T1, X1, e1, st1⟩ := getF X0 hx hZ hown (host := "") (Or.inl (hw _ (List.mem_of_getElem? (i := 92) rfl))) Via.refl e0 F_11 (g := (mkF m 1 #[.val (.ref a), .unset] [(.ref a)])) rfl rfl (hb hby d13_1)
  refine Go.step (st1) ?_
  show Go _ _ _ _ _ _ _ T1 (mkF m 4 #[.val (.ref a), .unset] [(.int (bi (rb = true)))])
  by_cases c4_2 : rb = true
  · refine Go.step (fun tt kk => XS.ifNo X1.here hx rfl (hb hby d13_4) rfl ((if0 _ _).trans (feq (bi_n c4_2)).1) kk) ?_
    show Go _ _ _ _ _ _ _ T1 (mkF m 7 #[.val (.ref a), .unset] [])
    refine Go.step (fun tt kk => XS.aloadN X1.here hx rfl (hb hby d13_7) rfl rfl kk) ?_
    show Go _ _ _ _ _ _ _ T1 (mkF m 8 #[.val (.ref a), .unset] [(.ref a)])
    obtain ⟨T3, X3, e3, st3⟩ := getF X1 hx hZ hown (host := "") (Or.inl (hw _ (List.mem_of_getElem? (i := 88) rfl))) Via.refl e1 F_9 (g := (mkF m 8 #[.val (.ref a), .unset] [(.ref a)])) rfl rfl (hb hby d13_8)
    refine Go.step (st3) ?_
    show Go _ _ _ _ _ _ _ T3 (mkF m 11 #[.val (.ref a), .unset] [(.long wr)])
    refine Go.step (fun tt kk => XS.lconst X3.here hx rfl (hb hby d13_11) kk) ?_
    show Go _ _ _ _ _ _ _ T3 (mkF m 12 #[.val (.ref a), .unset] [(.long (0 : Int64)), (.long wr)])
    refine Go.step (fun tt kk => XS.lcmp X3.here hx rfl (hb hby d13_12) rfl kk) ?_
    show Go _ _ _ _ _ _ _ T3 (mkF m 13 #[.val (.ref a), .unset] [(.int (lcmpW wr (0 : Int64)))])
    refine Go.step (fun tt kk => XS.ifNo X3.here hx rfl (hb hby d13_13) rfl ((if0 _ _).trans (teq ((lw_eq _ _).mpr hr)).2) kk) ?_
    show Go _ _ _ _ _ _ _ T3 (mkF m 16 #[.val (.ref a), .unset] [])
    refine Go.step (fun tt kk => XS.goto X3.here hx rfl (pc0 := 16) (pc' := 28) rfl (hb hby d13_16) (by decide) (by decide) kk) ?_
    show Go _ _ _ _ _ _ _ T3 (mkF m 28 #[.val (.ref a), .unset] [])
    refine Go.step (fun tt kk => XS.aloadN X3.here hx rfl (hb hby d13_28) rfl rfl kk) ?_
    show Go _ _ _ _ _ _ _ T3 (mkF m 29 #[.val (.ref a), .unset] [(.ref a)])
    refine Go.step (fun tt kk => XS.aloadN X3.here hx rfl (hb hby d13_29) rfl rfl kk) ?_
    show Go _ _ _ _ _ _ _ T3 (mkF m 30 #[.val (.ref a), .unset] [(.ref a), (.ref a)])
    obtain ⟨T4, X4, e4, st4⟩ := getF X3 hx hZ hown (host := "") (Or.inl (hw _ (List.mem_of_getElem? (i := 92) rfl))) Via.refl e3 F_11 (g := (mkF m 30 #[.val (.ref a), .unset] [(.ref a), (.ref a)])) rfl rfl (hb hby d13_30)
    refine Go.step (st4) ?_
    show Go _ _ _ _ _ _ _ T4 (mkF m 33 #[.val (.ref a), .unset] [(.int (bi (rb = true))), (.ref a)])
    refine Go.step (fun tt kk => XS.ifYes X4.here hx rfl (pc0 := 33) (pc' := 40) rfl (hb hby d13_33) rfl ((if0 _ _).trans (feq (bi_n c4_2)).2) (by decide) (by decide) kk) ?_
    show Go _ _ _ _ _ _ _ T4 (mkF m 40 #[.val (.ref a), .unset] [(.ref a)])
    refine Go.step (fun tt kk => XS.iconst X4.here hx rfl (hb hby d13_40) kk) ?_
    show Go _ _ _ _ _ _ _ T4 (mkF m 41 #[.val (.ref a), .unset] [(.int (0 : Int32)), (.ref a)])
    obtain ⟨T5, h5, X5, e5, W5, st5⟩ := putFN X4 hx hZ hown (hw _ (List.mem_of_getElem? (i := 92) rfl)) Via.refl e4 F_11 E_a (Or.inl (hw _ (List.mem_of_getElem? (i := 93) rfl))) (hw _ (List.mem_of_getElem? (i := 2) rfl)) (ty := .boolean) (v' := (.int (0 : Int32))) (by decide) rfl rfl (g := (mkF m 41 #[.val (.ref a), .unset] [(.int (0 : Int32)), (.ref a)])) rfl rfl (hb hby d13_41)
    have F5 := Fld.same W5 F_11
    have N5 := Fr.snoc X5 N0 g_a
    have Z5 : n0 ≤ h5.size := Nat.le_trans Z0 (Keep.of_wr W5).1
    have K5 : Keep hI h5 [a] := K0.wr W5 (Or.inl (List.mem_of_getElem? (i := 0) rfl))
    refine Go.step (st5) ?_
    show Go _ _ _ _ _ _ _ T5 (mkF m 44 #[.val (.ref a), .unset] [])
    refine Go.step (fun tt kk => XS.iconst X5.here hx rfl (hb hby d13_44) kk) ?_
    show Go _ _ _ _ _ _ _ T5 (mkF m 45 #[.val (.ref a), .unset] [(.int (-1 : Int32))])
    refine Go.step (fun tt kk => XS.istoreN X5.here hx rfl (hb hby d13_45) rfl (l' := #[.val (.ref a), .val (.int (-1 : Int32))]) rfl kk) ?_
    show Go _ _ _ _ _ _ _ T5 (mkF m 46 #[.val (.ref a), .val (.int (-1 : Int32))] [])
    refine Go.step (fun tt kk => XS.aloadN X5.here hx rfl (hb hby d13_46) rfl rfl kk) ?_
    show Go _ _ _ _ _ _ _ T5 (mkF m 47 #[.val (.ref a), .val (.int (-1 : Int32))] [(.ref a)])
    obtain ⟨T6, X6, e6, st6⟩ := getF X5 hx hZ hown (host := "") (Or.inl (hw _ (List.mem_of_getElem? (i := 92) rfl))) Via.refl e5 F5 (g := (mkF m 47 #[.val (.ref a), .val (.int (-1 : Int32))] [(.ref a)])) rfl rfl (hb hby d13_47)
    refine Go.step (st6) ?_
    show Go _ _ _ _ _ _ _ T6 (mkF m 50 #[.val (.ref a), .val (.int (-1 : Int32))] [(.int (0 : Int32))])
    refine Go.step (fun tt kk => XS.ifYes X6.here hx rfl (pc0 := 50) (pc' := 100) rfl (hb hby d13_50) rfl ((if0 _ _).trans (teq (by decide)).1) (by decide) (by decide) kk) ?_
    show Go _ _ _ _ _ _ _ T6 (mkF m 100 #[.val (.ref a), .val (.int (-1 : Int32))] [])
    refine Go.step (fun tt kk => XS.aloadN X6.here hx rfl (hb hby d13_100) rfl rfl kk) ?_
    show Go _ _ _ _ _ _ _ T6 (mkF m 101 #[.val (.ref a), .val (.int (-1 : Int32))] [(.ref a)])
    obtain ⟨T7, X7, e7, st7⟩ := getF X6 hx hZ hown (host := "") (Or.inl (hw _ (List.mem_of_getElem? (i := 92) rfl))) Via.refl e6 F5 (g := (mkF m 101 #[.val (.ref a), .val (.int (-1 : Int32))] [(.ref a)])) rfl rfl (hb hby d13_101)
    refine Go.step (st7) ?_
    show Go _ _ _ _ _ _ _ T7 (mkF m 104 #[.val (.ref a), .val (.int (-1 : Int32))] [(.int (0 : Int32))])
    refine Go.step (fun tt kk => XS.ifNo X7.here hx rfl (hb hby d13_104) rfl ((if0 _ _).trans (teq (by decide)).2) kk) ?_
    show Go _ _ _ _ _ _ _ T7 (mkF m 107 #[.val (.ref a), .val (.int (-1 : Int32))] [])
    refine Go.step (fun tt kk => XS.aloadN X7.here hx rfl (hb hby d13_107) rfl rfl kk) ?_
    show Go _ _ _ _ _ _ _ T7 (mkF m 108 #[.val (.ref a), .val (.int (-1 : Int32))] [(.ref a)])
    have f9 := (Fld.other W5 F_10 (Or.inr (slot_ne (Or.inl (hw _ (List.mem_of_getElem? (i := 91) rfl))) (Or.inl (hw _ (List.mem_of_getElem? (i := 93) rfl))) (by decide) (t := .long) (t' := .boolean) (by decide) (by decide))))
    obtain ⟨T8, X8, e8, st8⟩ := getF X7 hx hZ hown (host := "") (Or.inl (hw _ (List.mem_of_getElem? (i := 90) rfl))) Via.refl e7 f9 (g := (mkF m 108 #[.val (.ref a), .val (.int (-1 : Int32))] [(.ref a)])) rfl rfl (hb hby d13_108)
    refine Go.step (st8) ?_
    show Go _ _ _ _ _ _ _ T8 (mkF m 111 #[.val (.ref a), .val (.int (-1 : Int32))] [(.long wc)])
    refine Go.step (fun tt kk => XS.lconst X8.here hx rfl (hb hby d13_111) kk) ?_
    show Go _ _ _ _ _ _ _ T8 (mkF m 112 #[.val (.ref a), .val (.int (-1 : Int32))] [(.long (0 : Int64)), (.long wc)])
    refine Go.step (fun tt kk => XS.lcmp X8.here hx rfl (hb hby d13_112) rfl kk) ?_
    show Go _ _ _ _ _ _ _ T8 (mkF m 113 #[.val (.ref a), .val (.int (-1 : Int32))] [(.int (lcmpW wc (0 : Int64)))])
    refine Go.step (fun tt kk => XS.ifYes X8.here hx rfl (pc0 := 113) (pc' := 156) rfl (hb hby d13_113) rfl ((if0 _ _).trans (teq ((lw_eq _ _).mpr hc)).1) (by decide) (by decide) kk) ?_
    show Go _ _ _ _ _ _ _ T8 (mkF m 156 #[.val (.ref a), .val (.int (-1 : Int32))] [])
    refine Go.step (fun tt kk => XS.iloadN X8.here hx rfl (hb hby d13_156) rfl kk) ?_
    show Go _ _ _ _ _ _ _ T8 (mkF m 157 #[.val (.ref a), .val (.int (-1 : Int32))] [(.int (-1 : Int32))])
    have f10 : Fld Z h5 a "com/example/gridwright/gridwright/engine/SmallDraft" "rows" "Z" (.int (bi ((!rb) = true))) := by
      have q := F5
      have e : rb = true := c4_2
      subst e
      exact q
    have f11 := (Exa.wr W5 E_a)
    have f12 := (Fld.other W5 F_0 (Or.inr (slot_ne (Or.inr (hw _ (List.mem_of_getElem? (i := 16) rfl))) (Or.inl (hw _ (List.mem_of_getElem? (i := 93) rfl))) (by decide) (t := .int) (t' := .boolean) (by decide) (by decide))))
    have f13 := (Fld.other W5 F_1 (Or.inr (slot_ne (Or.inr (hw _ (List.mem_of_getElem? (i := 18) rfl))) (Or.inl (hw _ (List.mem_of_getElem? (i := 93) rfl))) (by decide) (t := .int) (t' := .boolean) (by decide) (by decide))))
    have f14 := (Fld.other W5 F_2 (Or.inr (slot_ne (Or.inl (hw _ (List.mem_of_getElem? (i := 74) rfl))) (Or.inl (hw _ (List.mem_of_getElem? (i := 93) rfl))) (by decide) (t := .long) (t' := .boolean) (by decide) (by decide))))
    have f15 := (Fld.other W5 F_3 (Or.inr (slot_ne (Or.inl (hw _ (List.mem_of_getElem? (i := 76) rfl))) (Or.inl (hw _ (List.mem_of_getElem? (i := 93) rfl))) (by decide) (t := .int) (t' := .boolean) (by decide) (by decide))))
    have f16 := (Fld.other W5 F_4 (Or.inr (slot_ne (Or.inl (hw _ (List.mem_of_getElem? (i := 83) rfl))) (Or.inl (hw _ (List.mem_of_getElem? (i := 93) rfl))) (by decide) (t := (.object "com/example/gridwright/gridwright/engine/Grid")) (t' := .boolean) (by decide) (by decide))))
    have f17 := (Fld.other W5 F_5 (Or.inr (slot_ne (Or.inr (hw _ (List.mem_of_getElem? (i := 21) rfl))) (Or.inl (hw _ (List.mem_of_getElem? (i := 93) rfl))) (by decide) (t := (.array .long)) (t' := .boolean) (by decide) (by decide))))
    have f18 := (Fld.other W5 F_6 (Or.inr (slot_ne (Or.inr (hw _ (List.mem_of_getElem? (i := 23) rfl))) (Or.inl (hw _ (List.mem_of_getElem? (i := 93) rfl))) (by decide) (t := (.array .long)) (t' := .boolean) (by decide) (by decide))))
    have f19 := (Fld.other W5 F_7 (Or.inr (slot_ne (Or.inl (hw _ (List.mem_of_getElem? (i := 85) rfl))) (Or.inl (hw _ (List.mem_of_getElem? (i := 93) rfl))) (by decide) (t := .long) (t' := .boolean) (by decide) (by decide))))
    have f20 := (Fld.other W5 F_8 (Or.inr (slot_ne (Or.inl (hw _ (List.mem_of_getElem? (i := 87) rfl))) (Or.inl (hw _ (List.mem_of_getElem? (i := 93) rfl))) (by decide) (t := .long) (t' := .boolean) (by decide) (by decide))))
    have f21 := (Fld.other W5 F_9 (Or.inr (slot_ne (Or.inl (hw _ (List.mem_of_getElem? (i := 89) rfl))) (Or.inl (hw _ (List.mem_of_getElem? (i := 93) rfl))) (by decide) (t := .long) (t' := .boolean) (by decide) (by decide))))
    refine go_retI X8 hx hret hlk (hb hby d13_157) ?_ (by decide) (by decide)
    try rw [e8]
    exact ⟨rfl, N5, eI ▸ K5, f11, f12, f13, f14, f15, f16, f17, f18, f19, f20, f21, f9, f10⟩
  · refine Go.step (fun tt kk => XS.ifYes X1.here hx rfl (pc0 := 4) (pc' := 19) rfl (hb hby d13_4) rfl ((if0 _ _).trans (teq (bi_f c4_2)).1) (by decide) (by decide) kk) ?_
    show Go _ _ _ _ _ _ _ T1 (mkF m 19 #[.val (.ref a), .unset] [])
    refine Go.step (fun tt kk => XS.aloadN X1.here hx rfl (hb hby d13_19) rfl rfl kk) ?_
    show Go _ _ _ _ _ _ _ T1 (mkF m 20 #[.val (.ref a), .unset] [(.ref a)])
    obtain ⟨T22, X22, e22, st22⟩ := getF X1 hx hZ hown (host := "") (Or.inl (hw _ (List.mem_of_getElem? (i := 90) rfl))) Via.refl e1 F_10 (g := (mkF m 20 #[.val (.ref a), .unset] [(.ref a)])) rfl rfl (hb hby d13_20)
    refine Go.step (st22) ?_
    show Go _ _ _ _ _ _ _ T22 (mkF m 23 #[.val (.ref a), .unset] [(.long wc)])
    refine Go.step (fun tt kk => XS.lconst X22.here hx rfl (hb hby d13_23) kk) ?_
    show Go _ _ _ _ _ _ _ T22 (mkF m 24 #[.val (.ref a), .unset] [(.long (0 : Int64)), (.long wc)])
    refine Go.step (fun tt kk => XS.lcmp X22.here hx rfl (hb hby d13_24) rfl kk) ?_
    show Go _ _ _ _ _ _ _ T22 (mkF m 25 #[.val (.ref a), .unset] [(.int (lcmpW wc (0 : Int64)))])
    refine Go.step (fun tt kk => XS.ifNo X22.here hx rfl (hb hby d13_25) rfl ((if0 _ _).trans (teq ((lw_eq _ _).mpr hc)).2) kk) ?_
    show Go _ _ _ _ _ _ _ T22 (mkF m 28 #[.val (.ref a), .unset] [])
    refine Go.step (fun tt kk => XS.aloadN X22.here hx rfl (hb hby d13_28) rfl rfl kk) ?_
    show Go _ _ _ _ _ _ _ T22 (mkF m 29 #[.val (.ref a), .unset] [(.ref a)])
    refine Go.step (fun tt kk => XS.aloadN X22.here hx rfl (hb hby d13_29) rfl rfl kk) ?_
    show Go _ _ _ _ _ _ _ T22 (mkF m 30 #[.val (.ref a), .unset] [(.ref a), (.ref a)])
    obtain ⟨T23, X23, e23, st23⟩ := getF X22 hx hZ hown (host := "") (Or.inl (hw _ (List.mem_of_getElem? (i := 92) rfl))) Via.refl e22 F_11 (g := (mkF m 30 #[.val (.ref a), .unset] [(.ref a), (.ref a)])) rfl rfl (hb hby d13_30)
    refine Go.step (st23) ?_
    show Go _ _ _ _ _ _ _ T23 (mkF m 33 #[.val (.ref a), .unset] [(.int (bi (rb = true))), (.ref a)])
    refine Go.step (fun tt kk => XS.ifNo X23.here hx rfl (hb hby d13_33) rfl ((if0 _ _).trans (teq (bi_f c4_2)).2) kk) ?_
    show Go _ _ _ _ _ _ _ T23 (mkF m 36 #[.val (.ref a), .unset] [(.ref a)])
    refine Go.step (fun tt kk => XS.iconst X23.here hx rfl (hb hby d13_36) kk) ?_
    show Go _ _ _ _ _ _ _ T23 (mkF m 37 #[.val (.ref a), .unset] [(.int (1 : Int32)), (.ref a)])
    refine Go.step (fun tt kk => XS.goto X23.here hx rfl (pc0 := 37) (pc' := 41) rfl (hb hby d13_37) (by decide) (by decide) kk) ?_
    show Go _ _ _ _ _ _ _ T23 (mkF m 41 #[.val (.ref a), .unset] [(.int (1 : Int32)), (.ref a)])
    obtain ⟨T24, h24, X24, e24, W24, st24⟩ := putFN X23 hx hZ hown (hw _ (List.mem_of_getElem? (i := 92) rfl)) Via.refl e23 F_11 E_a (Or.inl (hw _ (List.mem_of_getElem? (i := 93) rfl))) (hw _ (List.mem_of_getElem? (i := 2) rfl)) (ty := .boolean) (v' := (.int (1 : Int32))) (by decide) rfl rfl (g := (mkF m 41 #[.val (.ref a), .unset] [(.int (1 : Int32)), (.ref a)])) rfl rfl (hb hby d13_41)
    have F24 := Fld.same W24 F_11
    have N24 := Fr.snoc X24 N0 g_a
    have Z24 : n0 ≤ h24.size := Nat.le_trans Z0 (Keep.of_wr W24).1
    have K24 : Keep hI h24 [a] := K0.wr W24 (Or.inl (List.mem_of_getElem? (i := 0) rfl))
    refine Go.step (st24) ?_
    show Go _ _ _ _ _ _ _ T24 (mkF m 44 #[.val (.ref a), .unset] [])
    refine Go.step (fun tt kk => XS.iconst X24.here hx rfl (hb hby d13_44) kk) ?_
    show Go _ _ _ _ _ _ _ T24 (mkF m 45 #[.val (.ref a), .unset] [(.int (-1 : Int32))])
    refine Go.step (fun tt kk => XS.istoreN X24.here hx rfl (hb hby d13_45) rfl (l' := #[.val (.ref a), .val (.int (-1 : Int32))]) rfl kk) ?_
    show Go _ _ _ _ _ _ _ T24 (mkF m 46 #[.val (.ref a), .val (.int (-1 : Int32))] [])
    refine Go.step (fun tt kk => XS.aloadN X24.here hx rfl (hb hby d13_46) rfl rfl kk) ?_
    show Go _ _ _ _ _ _ _ T24 (mkF m 47 #[.val (.ref a), .val (.int (-1 : Int32))] [(.ref a)])
    obtain ⟨T25, X25, e25, st25⟩ := getF X24 hx hZ hown (host := "") (Or.inl (hw _ (List.mem_of_getElem? (i := 92) rfl))) Via.refl e24 F24 (g := (mkF m 47 #[.val (.ref a), .val (.int (-1 : Int32))] [(.ref a)])) rfl rfl (hb hby d13_47)
    refine Go.step (st25) ?_
    show Go _ _ _ _ _ _ _ T25 (mkF m 50 #[.val (.ref a), .val (.int (-1 : Int32))] [(.int (1 : Int32))])
    refine Go.step (fun tt kk => XS.ifNo X25.here hx rfl (hb hby d13_50) rfl ((if0 _ _).trans (feq (by decide)).1) kk) ?_
    show Go _ _ _ _ _ _ _ T25 (mkF m 53 #[.val (.ref a), .val (.int (-1 : Int32))] [])
    refine Go.step (fun tt kk => XS.aloadN X25.here hx rfl (hb hby d13_53) rfl rfl kk) ?_
    show Go _ _ _ _ _ _ _ T25 (mkF m 54 #[.val (.ref a), .val (.int (-1 : Int32))] [(.ref a)])
    have f27 := (Fld.other W24 F_9 (Or.inr (slot_ne (Or.inl (hw _ (List.mem_of_getElem? (i := 89) rfl))) (Or.inl (hw _ (List.mem_of_getElem? (i := 93) rfl))) (by decide) (t := .long) (t' := .boolean) (by decide) (by decide))))
    obtain ⟨T26, X26, e26, st26⟩ := getF X25 hx hZ hown (host := "") (Or.inl (hw _ (List.mem_of_getElem? (i := 88) rfl))) Via.refl e25 f27 (g := (mkF m 54 #[.val (.ref a), .val (.int (-1 : Int32))] [(.ref a)])) rfl rfl (hb hby d13_54)
    refine Go.step (st26) ?_
    show Go _ _ _ _ _ _ _ T26 (mkF m 57 #[.val (.ref a), .val (.int (-1 : Int32))] [(.long wr)])
    refine Go.step (fun tt kk => XS.lconst X26.here hx rfl (hb hby d13_57) kk) ?_
    show Go _ _ _ _ _ _ _ T26 (mkF m 58 #[.val (.ref a), .val (.int (-1 : Int32))] [(.long (0 : Int64)), (.long wr)])
    refine Go.step (fun tt kk => XS.lcmp X26.here hx rfl (hb hby d13_58) rfl kk) ?_
    show Go _ _ _ _ _ _ _ T26 (mkF m 59 #[.val (.ref a), .val (.int (-1 : Int32))] [(.int (lcmpW wr (0 : Int64)))])
    refine Go.step (fun tt kk => XS.ifYes X26.here hx rfl (pc0 := 59) (pc' := 100) rfl (hb hby d13_59) rfl ((if0 _ _).trans (teq ((lw_eq _ _).mpr hr)).1) (by decide) (by decide) kk) ?_
    show Go _ _ _ _ _ _ _ T26 (mkF m 100 #[.val (.ref a), .val (.int (-1 : Int32))] [])
    refine Go.step (fun tt kk => XS.aloadN X26.here hx rfl (hb hby d13_100) rfl rfl kk) ?_
    show Go _ _ _ _ _ _ _ T26 (mkF m 101 #[.val (.ref a), .val (.int (-1 : Int32))] [(.ref a)])
    obtain ⟨T28, X28, e28, st28⟩ := getF X26 hx hZ hown (host := "") (Or.inl (hw _ (List.mem_of_getElem? (i := 92) rfl))) Via.refl e26 F24 (g := (mkF m 101 #[.val (.ref a), .val (.int (-1 : Int32))] [(.ref a)])) rfl rfl (hb hby d13_101)
    refine Go.step (st28) ?_
    show Go _ _ _ _ _ _ _ T28 (mkF m 104 #[.val (.ref a), .val (.int (-1 : Int32))] [(.int (1 : Int32))])
    refine Go.step (fun tt kk => XS.ifYes X28.here hx rfl (pc0 := 104) (pc' := 156) rfl (hb hby d13_104) rfl ((if0 _ _).trans (feq (by decide)).2) (by decide) (by decide) kk) ?_
    show Go _ _ _ _ _ _ _ T28 (mkF m 156 #[.val (.ref a), .val (.int (-1 : Int32))] [])
    refine Go.step (fun tt kk => XS.iloadN X28.here hx rfl (hb hby d13_156) rfl kk) ?_
    show Go _ _ _ _ _ _ _ T28 (mkF m 157 #[.val (.ref a), .val (.int (-1 : Int32))] [(.int (-1 : Int32))])
    have f29 : Fld Z h24 a "com/example/gridwright/gridwright/engine/SmallDraft" "rows" "Z" (.int (bi ((!rb) = true))) := by
      have q := F24
      have e : rb = false := (Bool.not_eq_true _).mp c4_2
      subst e
      exact q
    have f30 := (Exa.wr W24 E_a)
    have f31 := (Fld.other W24 F_0 (Or.inr (slot_ne (Or.inr (hw _ (List.mem_of_getElem? (i := 16) rfl))) (Or.inl (hw _ (List.mem_of_getElem? (i := 93) rfl))) (by decide) (t := .int) (t' := .boolean) (by decide) (by decide))))
    have f32 := (Fld.other W24 F_1 (Or.inr (slot_ne (Or.inr (hw _ (List.mem_of_getElem? (i := 18) rfl))) (Or.inl (hw _ (List.mem_of_getElem? (i := 93) rfl))) (by decide) (t := .int) (t' := .boolean) (by decide) (by decide))))
    have f33 := (Fld.other W24 F_2 (Or.inr (slot_ne (Or.inl (hw _ (List.mem_of_getElem? (i := 74) rfl))) (Or.inl (hw _ (List.mem_of_getElem? (i := 93) rfl))) (by decide) (t := .long) (t' := .boolean) (by decide) (by decide))))
    have f34 := (Fld.other W24 F_3 (Or.inr (slot_ne (Or.inl (hw _ (List.mem_of_getElem? (i := 76) rfl))) (Or.inl (hw _ (List.mem_of_getElem? (i := 93) rfl))) (by decide) (t := .int) (t' := .boolean) (by decide) (by decide))))
    have f35 := (Fld.other W24 F_4 (Or.inr (slot_ne (Or.inl (hw _ (List.mem_of_getElem? (i := 83) rfl))) (Or.inl (hw _ (List.mem_of_getElem? (i := 93) rfl))) (by decide) (t := (.object "com/example/gridwright/gridwright/engine/Grid")) (t' := .boolean) (by decide) (by decide))))
    have f36 := (Fld.other W24 F_5 (Or.inr (slot_ne (Or.inr (hw _ (List.mem_of_getElem? (i := 21) rfl))) (Or.inl (hw _ (List.mem_of_getElem? (i := 93) rfl))) (by decide) (t := (.array .long)) (t' := .boolean) (by decide) (by decide))))
    have f37 := (Fld.other W24 F_6 (Or.inr (slot_ne (Or.inr (hw _ (List.mem_of_getElem? (i := 23) rfl))) (Or.inl (hw _ (List.mem_of_getElem? (i := 93) rfl))) (by decide) (t := (.array .long)) (t' := .boolean) (by decide) (by decide))))
    have f38 := (Fld.other W24 F_7 (Or.inr (slot_ne (Or.inl (hw _ (List.mem_of_getElem? (i := 85) rfl))) (Or.inl (hw _ (List.mem_of_getElem? (i := 93) rfl))) (by decide) (t := .long) (t' := .boolean) (by decide) (by decide))))
    have f39 := (Fld.other W24 F_8 (Or.inr (slot_ne (Or.inl (hw _ (List.mem_of_getElem? (i := 87) rfl))) (Or.inl (hw _ (List.mem_of_getElem? (i := 93) rfl))) (by decide) (t := .long) (t' := .boolean) (by decide) (by decide))))
    have f40 := (Fld.other W24 F_10 (Or.inr (slot_ne (Or.inl (hw _ (List.mem_of_getElem? (i := 91) rfl))) (Or.inl (hw _ (List.mem_of_getElem? (i := 93) rfl))) (by decide) (t := .long) (t' := .boolean) (by decide) (by decide))))
    refine go_retI X28 hx hret hlk (hb hby d13_157) ?_ (by decide) (by decide)
    try rw [e28]
    exact ⟨rfl, N24, eI ▸ K24, f30, f31, f32, f33, f34, f35, f36, f37, f38, f39, f27, f40, f29⟩
theorem ef_rmTk (m : MethodId) (x0 : Addr) : entryFrame m #[(.ref x0)] 1 = mkF m 0 #[.val (.ref x0)] [] := by first | (simp [entryFrame, mkF, argsToLocals, Value.category]; done) | rfl
theorem d17_0 : decode prog_49_method_10_code 0 = .ok (.aload_n 0, 1) := by decide +kernel
theorem d17_1 : decode prog_49_method_10_code 1 = .ok (.getfield 38, 3) := by decide +kernel
theorem d17_4 : decode prog_49_method_10_code 4 = .ok (.lreturn, 1) := by decide +kernel
set_option maxRecDepth 65536 in
set_option maxHeartbeats 40000000 in
theorem rmTk (l : Launch) (Z : State) (a0 : Array Value) (hw : ∀ d ∈ tables_1, d.before a0 Z = true) (ws : List Jvm.Cond) (a : Addr) (u : Int64) (h0 : Heap) (n0 : Nat) (Z0 : n0 ≤ h0.size) (F : Fld Z h0 a "com/example/gridwright/gridwright/engine/Draft" "taken" "J" (.long u)) :
    Ctr l Z (⟨"com/example/gridwright/gridwright/engine/Draft", "taken", "()J"⟩ : MethodName) prog_49_method_10_code 1 (some .long) ws ({ frames := 0, cells := 0, slots := 0, locals := 0 } : Room) 0 0 #[(.ref a)] h0 (fun v h L => v = some (.long u) ∧ L = [] ∧ h = h0) := by
  refine Ctr.mk (plainFor_of_name pn_3) fun p e s m below meth c T0 X0 C e0 => go_cast (ef_rmTk m a) ?_
  have N0 := Fr.nil n0
  obtain ⟨hx, hZ, hby, hml, hown, hnm, hret, hlk⟩ := C
  show Go _ _ _ _ _ _ _ T0 (mkF m 0 #[.val (.ref a)] [])
  refine Go.step (fun tt kk => XS.aloadN X0.here hx rfl (hb hby d17_0) rfl rfl kk) ?_
  show Go _ _ _ _ _ _ _ T0 (mkF m 1 #[.val (.ref a)] [(.ref a)])
  obtain ⟨T1, X1, e1, st1⟩ := getF X0 hx hZ hown (host := "") (Or.inl (hw _ (List.mem_of_getElem? (i := 73) rfl))) Via.refl e0 F (g := (mkF m 1 #[.val (.ref a)] [(.ref a)])) rfl rfl (hb hby d17_1)
  refine Go.step (st1) ?_
  show Go _ _ _ _ _ _ _ T1 (mkF m 4 #[.val (.ref a)] [(.long u)])
  refine go_retJ X1 hx hret hlk (hb hby d17_4) ?_ (by decide) (by decide)
  try rw [e1]
  exact ⟨rfl, rfl, rfl⟩
theorem own_bits1 : ∀ a b : Fin 64, ntz (sh (Int32.ofNat a.1) ||| sh (Int32.ofNat b.1)) = Int32.ofNat (min a.1 b.1) ∧ ¬ (sh (Int32.ofNat a.1) ||| sh (Int32.ofNat b.1)) = 0 ∧
    ((sh (Int32.ofNat a.1) ||| sh (Int32.ofNat b.1)) &&& ((sh (Int32.ofNat a.1) ||| sh (Int32.ofNat b.1)) - 1)) = (if a.1 = b.1 then 0 else sh (Int32.ofNat (max a.1 b.1))) := by decide +kernel
theorem own_one : ∀ a : Fin 64, ntz (sh (Int32.ofNat a.1)) = Int32.ofNat a.1 ∧ ¬ sh (Int32.ofNat a.1) = 0 ∧ (sh (Int32.ofNat a.1) &&& (sh (Int32.ofNat a.1) - 1)) = 0 := by decide +kernel
theorem own_or0 (x : Int64) : (0 : Int64) ||| x = x := Int64.zero_or
theorem own_3 (x y : Int64) : ((x ||| y) ||| x) = (x ||| y) := by rw [Int64.or_comm (x ||| y) x, ← Int64.or_assoc, Int64.or_self]
theorem ef_rm0 (m : MethodId) (x0 : Int32) (x1 : Int32) (x2 : Int32) (x3 : Int32) : entryFrame m #[(.int x0), (.int x1), (.int x2), (.int x3)] maxLocals = mkF m 0 #[.val (.int x0), .val (.int x1), .val (.int x2), .val (.int x3), .unset, .unset, .unset, .unset, .unset, .unset, .unset, .unset, .unset, .unset, .unset, .unset, .unset, .unset] [] := by first | (simp [entryFrame, mkF, argsToLocals, Value.category, maxLocals]; done) | rfl
theorem pn_5 : plainName "com/example/gridwright/gridwright/engine/SmallDraftAwaitPinLaw" = true := by first | (simp [plainName, overriddenIn]; done) | decide +kernel
theorem pd_6 : parseMethodDescriptor "(I)V" = some ⟨[.int], none⟩ := by decide +kernel
theorem pd_7 : parseMethodDescriptor "()J" = some ⟨[], some .long⟩ := by decide +kernel
set_option maxRecDepth 65536 in
set_option maxHeartbeats 40000000 in
theorem rm0 (l : Launch) (Z : State) (a0 : Array Value) (hw : ∀ d ∈ tables_1, d.before a0 Z = true) (ws : List Jvm.Cond) (i0 i1 i2 i3 : Int32) (h0 : Heap) (n0 : Nat) (Z0 : n0 ≤ h0.size)  :
    Ctr l Z x code maxLocals ret ws room_1 24 9344 #[(.int i0), (.int i1), (.int i2), (.int i3)] h0 (fun v h L => v = some (.int (1 : Int32)) ∧ Fr n0 L) := by
  refine Ctr.mk (plainFor_of_name pn_5) fun p e s m below meth c T0 X0 C e0 => go_cast (ef_rm0 m i0 i1 i2 i3) ?_
  have N0 := Fr.nil n0
  obtain ⟨hx, hZ, hby, hml, hown, hnm, hret, hlk⟩ := C
  show Go _ _ _ _ _ _ _ T0 (mkF m 0 #[.val (.int i0), .val (.int i1), .val (.int i2), .val (.int i3), .unset, .unset, .unset, .unset, .unset, .unset, .unset, .unset, .unset, .unset, .unset, .unset, .unset, .unset] [])
  refine Go.step (fun tt kk => XS.iloadN X0.here hx rfl (hb hby at_0) rfl kk) ?_
  show Go _ _ _ _ _ _ _ T0 (mkF m 1 #[.val (.int i0), .val (.int i1), .val (.int i2), .val (.int i3), .unset, .unset, .unset, .unset, .unset, .unset, .unset, .unset, .unset, .unset, .unset, .unset, .unset, .unset] [(.int i0)])
  refine Go.step (fun tt kk => XS.bipush X0.here hx rfl (hb hby at_1) kk) ?_
  show Go _ _ _ _ _ _ _ T0 (mkF m 3 #[.val (.int i0), .val (.int i1), .val (.int i2), .val (.int i3), .unset, .unset, .unset, .unset, .unset, .unset, .unset, .unset, .unset, .unset, .unset, .unset, .unset, .unset] [(.int (63 : Int32)), (.int i0)])
  refine Go.step (fun tt kk => XS.iand X0.here hx rfl (hb hby at_3) rfl kk) ?_
  show Go _ _ _ _ _ _ _ T0 (mkF m 4 #[.val (.int i0), .val (.int i1), .val (.int i2), .val (.int i3), .unset, .unset, .unset, .unset, .unset, .unset, .unset, .unset, .unset, .unset, .unset, .unset, .unset, .unset] [(.int (i0 &&& (63 : Int32)))])
  refine Go.step (fun tt kk => XS.iconst X0.here hx rfl (hb hby at_4) kk) ?_
  show Go _ _ _ _ _ _ _ T0 (mkF m 5 #[.val (.int i0), .val (.int i1), .val (.int i2), .val (.int i3), .unset, .unset, .unset, .unset, .unset, .unset, .unset, .unset, .unset, .unset, .unset, .unset, .unset, .unset] [(.int (1 : Int32)), (.int (i0 &&& (63 : Int32)))])
  refine Go.step (fun tt kk => XS.iadd X0.here hx rfl (hb hby at_5) rfl kk) ?_
  show Go _ _ _ _ _ _ _ T0 (mkF m 6 #[.val (.int i0), .val (.int i1), .val (.int i2), .val (.int i3), .unset, .unset, .unset, .unset, .unset, .unset, .unset, .unset, .unset, .unset, .unset, .unset, .unset, .unset] [(.int ((i0 &&& (63 : Int32)) + (1 : Int32)))])
  refine Go.step (fun tt kk => XS.istore X0.here hx rfl (hb hby at_6) rfl (l' := #[.val (.int i0), .val (.int i1), .val (.int i2), .val (.int i3), .val (.int ((i0 &&& (63 : Int32)) + (1 : Int32))), .unset, .unset, .unset, .unset, .unset, .unset, .unset, .unset, .unset, .unset, .unset, .unset, .unset]) rfl kk) ?_
  show Go _ _ _ _ _ _ _ T0 (mkF m 8 #[.val (.int i0), .val (.int i1), .val (.int i2), .val (.int i3), .val (.int ((i0 &&& (63 : Int32)) + (1 : Int32))), .unset, .unset, .unset, .unset, .unset, .unset, .unset, .unset, .unset, .unset, .unset, .unset, .unset] [])
  obtain ⟨W, hW1, hW, eW⟩ := own_side i0
  rw [eW]
  show Go _ _ _ _ _ _ _ T0 (mkF m 8 #[.val (.int i0), .val (.int i1), .val (.int i2), .val (.int i3), .val (.int (Int32.ofNat W)), .unset, .unset, .unset, .unset, .unset, .unset, .unset, .unset, .unset, .unset, .unset, .unset, .unset] [])
  refine Go.step (fun tt kk => XS.iloadN X0.here hx rfl (hb hby at_8) rfl kk) ?_
  show Go _ _ _ _ _ _ _ T0 (mkF m 9 #[.val (.int i0), .val (.int i1), .val (.int i2), .val (.int i3), .val (.int (Int32.ofNat W)), .unset, .unset, .unset, .unset, .unset, .unset, .unset, .unset, .unset, .unset, .unset, .unset, .unset] [(.int i1)])
  refine Go.step (fun tt kk => XS.bipush X0.here hx rfl (hb hby at_9) kk) ?_
  show Go _ _ _ _ _ _ _ T0 (mkF m 11 #[.val (.int i0), .val (.int i1), .val (.int i2), .val (.int i3), .val (.int (Int32.ofNat W)), .unset, .unset, .unset, .unset, .unset, .unset, .unset, .unset, .unset, .unset, .unset, .unset, .unset] [(.int (63 : Int32)), (.int i1)])
  refine Go.step (fun tt kk => XS.iand X0.here hx rfl (hb hby at_11) rfl kk) ?_
  show Go _ _ _ _ _ _ _ T0 (mkF m 12 #[.val (.int i0), .val (.int i1), .val (.int i2), .val (.int i3), .val (.int (Int32.ofNat W)), .unset, .unset, .unset, .unset, .unset, .unset, .unset, .unset, .unset, .unset, .unset, .unset, .unset] [(.int (i1 &&& (63 : Int32)))])
  refine Go.step (fun tt kk => XS.iconst X0.here hx rfl (hb hby at_12) kk) ?_
  show Go _ _ _ _ _ _ _ T0 (mkF m 13 #[.val (.int i0), .val (.int i1), .val (.int i2), .val (.int i3), .val (.int (Int32.ofNat W)), .unset, .unset, .unset, .unset, .unset, .unset, .unset, .unset, .unset, .unset, .unset, .unset, .unset] [(.int (1 : Int32)), (.int (i1 &&& (63 : Int32)))])
  refine Go.step (fun tt kk => XS.iadd X0.here hx rfl (hb hby at_13) rfl kk) ?_
  show Go _ _ _ _ _ _ _ T0 (mkF m 14 #[.val (.int i0), .val (.int i1), .val (.int i2), .val (.int i3), .val (.int (Int32.ofNat W)), .unset, .unset, .unset, .unset, .unset, .unset, .unset, .unset, .unset, .unset, .unset, .unset, .unset] [(.int ((i1 &&& (63 : Int32)) + (1 : Int32)))])
  refine Go.step (fun tt kk => XS.istore X0.here hx rfl (hb hby at_14) rfl (l' := #[.val (.int i0), .val (.int i1), .val (.int i2), .val (.int i3), .val (.int (Int32.ofNat W)), .val (.int ((i1 &&& (63 : Int32)) + (1 : Int32))), .unset, .unset, .unset, .unset, .unset, .unset, .unset, .unset, .unset, .unset, .unset, .unset]) rfl kk) ?_
  show Go _ _ _ _ _ _ _ T0 (mkF m 16 #[.val (.int i0), .val (.int i1), .val (.int i2), .val (.int i3), .val (.int (Int32.ofNat W)), .val (.int ((i1 &&& (63 : Int32)) + (1 : Int32))), .unset, .unset, .unset, .unset, .unset, .unset, .unset, .unset, .unset, .unset, .unset, .unset] [])
  obtain ⟨H, hH1, hH, eH⟩ := own_side i1
  rw [eH]
  show Go _ _ _ _ _ _ _ T0 (mkF m 16 #[.val (.int i0), .val (.int i1), .val (.int i2), .val (.int i3), .val (.int (Int32.ofNat W)), .val (.int (Int32.ofNat H)), .unset, .unset, .unset, .unset, .unset, .unset, .unset, .unset, .unset, .unset, .unset, .unset] [])
  refine Go.step (fun tt kk => XS.iload X0.here hx rfl (hb hby at_16) rfl kk) ?_
  show Go _ _ _ _ _ _ _ T0 (mkF m 18 #[.val (.int i0), .val (.int i1), .val (.int i2), .val (.int i3), .val (.int (Int32.ofNat W)), .val (.int (Int32.ofNat H)), .unset, .unset, .unset, .unset, .unset, .unset, .unset, .unset, .unset, .unset, .unset, .unset] [(.int (Int32.ofNat W))])
  refine Go.step (fun tt kk => XS.iload X0.here hx rfl (hb hby at_18) rfl kk) ?_
  show Go _ _ _ _ _ _ _ T0 (mkF m 20 #[.val (.int i0), .val (.int i1), .val (.int i2), .val (.int i3), .val (.int (Int32.ofNat W)), .val (.int (Int32.ofNat H)), .unset, .unset, .unset, .unset, .unset, .unset, .unset, .unset, .unset, .unset, .unset, .unset] [(.int (Int32.ofNat H)), (.int (Int32.ofNat W))])
  refine Go.step (fun tt kk => XS.iadd X0.here hx rfl (hb hby at_20) rfl kk) ?_
  show Go _ _ _ _ _ _ _ T0 (mkF m 21 #[.val (.int i0), .val (.int i1), .val (.int i2), .val (.int i3), .val (.int (Int32.ofNat W)), .val (.int (Int32.ofNat H)), .unset, .unset, .unset, .unset, .unset, .unset, .unset, .unset, .unset, .unset, .unset, .unset] [(.int ((Int32.ofNat W) + (Int32.ofNat H)))])
  refine Go.step (fun tt kk => XS.istore X0.here hx rfl (hb hby at_21) rfl (l' := #[.val (.int i0), .val (.int i1), .val (.int i2), .val (.int i3), .val (.int (Int32.ofNat W)), .val (.int (Int32.ofNat H)), .val (.int ((Int32.ofNat W) + (Int32.ofNat H))), .unset, .unset, .unset, .unset, .unset, .unset, .unset, .unset, .unset, .unset, .unset]) rfl kk) ?_
  show Go _ _ _ _ _ _ _ T0 (mkF m 23 #[.val (.int i0), .val (.int i1), .val (.int i2), .val (.int i3), .val (.int (Int32.ofNat W)), .val (.int (Int32.ofNat H)), .val (.int ((Int32.ofNat W) + (Int32.ofNat H))), .unset, .unset, .unset, .unset, .unset, .unset, .unset, .unset, .unset, .unset, .unset] [])
  rw [← Int32.ofNat_add]
  show Go _ _ _ _ _ _ _ T0 (mkF m 23 #[.val (.int i0), .val (.int i1), .val (.int i2), .val (.int i3), .val (.int (Int32.ofNat W)), .val (.int (Int32.ofNat H)), .val (.int (Int32.ofNat (W + H))), .unset, .unset, .unset, .unset, .unset, .unset, .unset, .unset, .unset, .unset, .unset] [])
  refine Go.step (fun tt kk => XS.iloadN X0.here hx rfl (hb hby at_23) rfl kk) ?_
  show Go _ _ _ _ _ _ _ T0 (mkF m 24 #[.val (.int i0), .val (.int i1), .val (.int i2), .val (.int i3), .val (.int (Int32.ofNat W)), .val (.int (Int32.ofNat H)), .val (.int (Int32.ofNat (W + H))), .unset, .unset, .unset, .unset, .unset, .unset, .unset, .unset, .unset, .unset, .unset] [(.int i2)])
  refine Go.step (X0.ldcInt hx hown (mvT hZ (hw _ (List.mem_of_getElem? (i := 0) rfl))) (g := (mkF m 24 #[.val (.int i0), .val (.int i1), .val (.int i2), .val (.int i3), .val (.int (Int32.ofNat W)), .val (.int (Int32.ofNat H)), .val (.int (Int32.ofNat (W + H))), .unset, .unset, .unset, .unset, .unset, .unset, .unset, .unset, .unset, .unset, .unset] [(.int i2)])) rfl (hb hby at_24)) ?_
  show Go _ _ _ _ _ _ _ T0 (mkF m 26 #[.val (.int i0), .val (.int i1), .val (.int i2), .val (.int i3), .val (.int (Int32.ofNat W)), .val (.int (Int32.ofNat H)), .val (.int (Int32.ofNat (W + H))), .unset, .unset, .unset, .unset, .unset, .unset, .unset, .unset, .unset, .unset, .unset] [(.int (2147483647 : Int32)), (.int i2)])
  refine Go.step (fun tt kk => XS.iand X0.here hx rfl (hb hby at_26) rfl kk) ?_
  show Go _ _ _ _ _ _ _ T0 (mkF m 27 #[.val (.int i0), .val (.int i1), .val (.int i2), .val (.int i3), .val (.int (Int32.ofNat W)), .val (.int (Int32.ofNat H)), .val (.int (Int32.ofNat (W + H))), .unset, .unset, .unset, .unset, .unset, .unset, .unset, .unset, .unset, .unset, .unset] [(.int (i2 &&& (2147483647 : Int32)))])
  refine Go.step (fun tt kk => XS.iload X0.here hx rfl (hb hby at_27) rfl kk) ?_
  show Go _ _ _ _ _ _ _ T0 (mkF m 29 #[.val (.int i0), .val (.int i1), .val (.int i2), .val (.int i3), .val (.int (Int32.ofNat W)), .val (.int (Int32.ofNat H)), .val (.int (Int32.ofNat (W + H))), .unset, .unset, .unset, .unset, .unset, .unset, .unset, .unset, .unset, .unset, .unset] [(.int (Int32.ofNat (W + H))), (.int (i2 &&& (2147483647 : Int32)))])
  refine Go.step (fun tt kk => iremM X0 hx rfl (hb hby at_29) rfl (own_nz (W + H) (by omega) (by omega)) kk) ?_
  show Go _ _ _ _ _ _ _ T0 (mkF m 30 #[.val (.int i0), .val (.int i1), .val (.int i2), .val (.int i3), .val (.int (Int32.ofNat W)), .val (.int (Int32.ofNat H)), .val (.int (Int32.ofNat (W + H))), .unset, .unset, .unset, .unset, .unset, .unset, .unset, .unset, .unset, .unset, .unset] [(.int ((i2 &&& (2147483647 : Int32)) % (Int32.ofNat (W + H))))])
  refine Go.step (fun tt kk => XS.istore X0.here hx rfl (hb hby at_30) rfl (l' := #[.val (.int i0), .val (.int i1), .val (.int i2), .val (.int i3), .val (.int (Int32.ofNat W)), .val (.int (Int32.ofNat H)), .val (.int (Int32.ofNat (W + H))), .val (.int ((i2 &&& (2147483647 : Int32)) % (Int32.ofNat (W + H)))), .unset, .unset, .unset, .unset, .unset, .unset, .unset, .unset, .unset, .unset]) rfl kk) ?_
  show Go _ _ _ _ _ _ _ T0 (mkF m 32 #[.val (.int i0), .val (.int i1), .val (.int i2), .val (.int i3), .val (.int (Int32.ofNat W)), .val (.int (Int32.ofNat H)), .val (.int (Int32.ofNat (W + H))), .val (.int ((i2 &&& (2147483647 : Int32)) % (Int32.ofNat (W + H)))), .unset, .unset, .unset, .unset, .unset, .unset, .unset, .unset, .unset, .unset] [])
  obtain ⟨A, hA, eA⟩ := own_line i2 (W + H) (by omega) (by omega)
  rw [eA]
  show Go _ _ _ _ _ _ _ T0 (mkF m 32 #[.val (.int i0), .val (.int i1), .val (.int i2), .val (.int i3), .val (.int (Int32.ofNat W)), .val (.int (Int32.ofNat H)), .val (.int (Int32.ofNat (W + H))), .val (.int (Int32.ofNat A)), .unset, .unset, .unset, .unset, .unset, .unset, .unset, .unset, .unset, .unset] [])
  refine Go.step (fun tt kk => XS.iloadN X0.here hx rfl (hb hby at_32) rfl kk) ?_
  show Go _ _ _ _ _ _ _ T0 (mkF m 33 #[.val (.int i0), .val (.int i1), .val (.int i2), .val (.int i3), .val (.int (Int32.ofNat W)), .val (.int (Int32.ofNat H)), .val (.int (Int32.ofNat (W + H))), .val (.int (Int32.ofNat A)), .unset, .unset, .unset, .unset, .unset, .unset, .unset, .unset, .unset, .unset] [(.int i3)])
  refine Go.step (X0.ldcInt hx hown (mvT hZ (hw _ (List.mem_of_getElem? (i := 0) rfl))) (g := (mkF m 33 #[.val (.int i0), .val (.int i1), .val (.int i2), .val (.int i3), .val (.int (Int32.ofNat W)), .val (.int (Int32.ofNat H)), .val (.int (Int32.ofNat (W + H))), .val (.int (Int32.ofNat A)), .unset, .unset, .unset, .unset, .unset, .unset, .unset, .unset, .unset, .unset] [(.int i3)])) rfl (hb hby at_33)) ?_
  show Go _ _ _ _ _ _ _ T0 (mkF m 35 #[.val (.int i0), .val (.int i1), .val (.int i2), .val (.int i3), .val (.int (Int32.ofNat W)), .val (.int (Int32.ofNat H)), .val (.int (Int32.ofNat (W + H))), .val (.int (Int32.ofNat A)), .unset, .unset, .unset, .unset, .unset, .unset, .unset, .unset, .unset, .unset] [(.int (2147483647 : Int32)), (.int i3)])
  refine Go.step (fun tt kk => XS.iand X0.here hx rfl (hb hby at_35) rfl kk) ?_
  show Go _ _ _ _ _ _ _ T0 (mkF m 36 #[.val (.int i0), .val (.int i1), .val (.int i2), .val (.int i3), .val (.int (Int32.ofNat W)), .val (.int (Int32.ofNat H)), .val (.int (Int32.ofNat (W + H))), .val (.int (Int32.ofNat A)), .unset, .unset, .unset, .unset, .unset, .unset, .unset, .unset, .unset, .unset] [(.int (i3 &&& (2147483647 : Int32)))])
  refine Go.step (fun tt kk => XS.iload X0.here hx rfl (hb hby at_36) rfl kk) ?_
  show Go _ _ _ _ _ _ _ T0 (mkF m 38 #[.val (.int i0), .val (.int i1), .val (.int i2), .val (.int i3), .val (.int (Int32.ofNat W)), .val (.int (Int32.ofNat H)), .val (.int (Int32.ofNat (W + H))), .val (.int (Int32.ofNat A)), .unset, .unset, .unset, .unset, .unset, .unset, .unset, .unset, .unset, .unset] [(.int (Int32.ofNat (W + H))), (.int (i3 &&& (2147483647 : Int32)))])
  refine Go.step (fun tt kk => iremM X0 hx rfl (hb hby at_38) rfl (own_nz (W + H) (by omega) (by omega)) kk) ?_
  show Go _ _ _ _ _ _ _ T0 (mkF m 39 #[.val (.int i0), .val (.int i1), .val (.int i2), .val (.int i3), .val (.int (Int32.ofNat W)), .val (.int (Int32.ofNat H)), .val (.int (Int32.ofNat (W + H))), .val (.int (Int32.ofNat A)), .unset, .unset, .unset, .unset, .unset, .unset, .unset, .unset, .unset, .unset] [(.int ((i3 &&& (2147483647 : Int32)) % (Int32.ofNat (W + H))))])
  refine Go.step (fun tt kk => XS.istore X0.here hx rfl (hb hby at_39) rfl (l' := #[.val (.int i0), .val (.int i1), .val (.int i2), .val (.int i3), .val (.int (Int32.ofNat W)), .val (.int (Int32.ofNat H)), .val (.int (Int32.ofNat (W + H))), .val (.int (Int32.ofNat A)), .val (.int ((i3 &&& (2147483647 : Int32)) % (Int32.ofNat (W + H)))), .unset, .unset, .unset, .unset, .unset, .unset, .unset, .unset, .unset]) rfl kk) ?_
  show Go _ _ _ _ _ _ _ T0 (mkF m 41 #[.val (.int i0), .val (.int i1), .val (.int i2), .val (.int i3), .val (.int (Int32.ofNat W)), .val (.int (Int32.ofNat H)), .val (.int (Int32.ofNat (W + H))), .val (.int (Int32.ofNat A)), .val (.int ((i3 &&& (2147483647 : Int32)) % (Int32.ofNat (W + H)))), .unset, .unset, .unset, .unset, .unset, .unset, .unset, .unset, .unset] [])
  obtain ⟨B, hB, eB⟩ := own_line i3 (W + H) (by omega) (by omega)
  rw [eB]
  show Go _ _ _ _ _ _ _ T0 (mkF m 41 #[.val (.int i0), .val (.int i1), .val (.int i2), .val (.int i3), .val (.int (Int32.ofNat W)), .val (.int (Int32.ofNat H)), .val (.int (Int32.ofNat (W + H))), .val (.int (Int32.ofNat A)), .val (.int (Int32.ofNat B)), .unset, .unset, .unset, .unset, .unset, .unset, .unset, .unset, .unset] [])
  obtain ⟨T1, h1, X1, e1, E1, A1, D1, -, st1⟩ := newO X0 hx hZ hown (hw _ (List.mem_of_getElem? (i := 1) rfl)) (hw _ (List.mem_of_getElem? (i := 2) rfl)) (hw _ (List.mem_of_getElem? (i := 3) rfl)) e0 (g := (mkF m 41 #[.val (.int i0), .val (.int i1), .val (.int i2), .val (.int i3), .val (.int (Int32.ofNat W)), .val (.int (Int32.ofNat H)), .val (.int (Int32.ofNat (W + H))), .val (.int (Int32.ofNat A)), .val (.int (Int32.ofNat B)), .unset, .unset, .unset, .unset, .unset, .unset, .unset, .unset, .unset] [])) rfl (hb hby at_41) (by decide) (by decide)
  obtain ⟨b1, g1⟩ : ∃ z, z = h0.size := ⟨_, rfl⟩
  rw [← g1] at A1 D1 st1
  have gn_b1 : n0 ≤ b1 := Nat.le_trans Z0 (Nat.le_of_eq g1.symm)
  have Z1 : n0 ≤ h1.size := Nat.le_trans Z0 E1.1
  have F1_width : Fld Z h1 b1 "com/example/gridwright/gridwright/engine/Draft" "width" "I" (.int (0 : Int32)) := D1 (Or.inr (hw _ (List.mem_of_getElem? (i := 16) rfl))) (ty := .int) (by decide)
  have F1_height : Fld Z h1 b1 "com/example/gridwright/gridwright/engine/Draft" "height" "I" (.int (0 : Int32)) := D1 (Or.inr (hw _ (List.mem_of_getElem? (i := 18) rfl))) (ty := .int) (by decide)
  have F1_filled : Fld Z h1 b1 "com/example/gridwright/gridwright/engine/SmallDraft" "filled" "[J" .null := D1 (Or.inr (hw _ (List.mem_of_getElem? (i := 21) rfl))) (ty := (.array .long)) (by decide)
  have F1_empty : Fld Z h1 b1 "com/example/gridwright/gridwright/engine/SmallDraft" "empty" "[J" .null := D1 (Or.inr (hw _ (List.mem_of_getElem? (i := 23) rfl))) (ty := (.array .long)) (by decide)
  have F1_taken : Fld Z h1 b1 "com/example/gridwright/gridwright/engine/Draft" "taken" "J" (.long (0 : Int64)) := D1 (Or.inl (hw _ (List.mem_of_getElem? (i := 74) rfl))) (ty := .long) (by decide)
  have F1_decided : Fld Z h1 b1 "com/example/gridwright/gridwright/engine/Draft" "decided" "I" (.int (0 : Int32)) := D1 (Or.inl (hw _ (List.mem_of_getElem? (i := 76) rfl))) (ty := .int) (by decide)
  have F1_grid : Fld Z h1 b1 "com/example/gridwright/gridwright/engine/SmallDraft" "grid" "Lcom/example/gridwright/gridwright/engine/Grid;" .null := D1 (Or.inl (hw _ (List.mem_of_getElem? (i := 83) rfl))) (ty := (.object "com/example/gridwright/gridwright/engine/Grid")) (by decide)
  have F1_changedRows : Fld Z h1 b1 "com/example/gridwright/gridwright/engine/SmallDraft" "changedRows" "J" (.long (0 : Int64)) := D1 (Or.inl (hw _ (List.mem_of_getElem? (i := 85) rfl))) (ty := .long) (by decide)
  have F1_changedColumns : Fld Z h1 b1 "com/example/gridwright/gridwright/engine/SmallDraft" "changedColumns" "J" (.long (0 : Int64)) := D1 (Or.inl (hw _ (List.mem_of_getElem? (i := 87) rfl))) (ty := .long) (by decide)
  have F1_waitingRows : Fld Z h1 b1 "com/example/gridwright/gridwright/engine/SmallDraft" "waitingRows" "J" (.long (0 : Int64)) := D1 (Or.inl (hw _ (List.mem_of_getElem? (i := 89) rfl))) (ty := .long) (by decide)
  have F1_waitingColumns : Fld Z h1 b1 "com/example/gridwright/gridwright/engine/SmallDraft" "waitingColumns" "J" (.long (0 : Int64)) := D1 (Or.inl (hw _ (List.mem_of_getElem? (i := 91) rfl))) (ty := .long) (by decide)
  have F1_rows : Fld Z h1 b1 "com/example/gridwright/gridwright/engine/SmallDraft" "rows" "Z" (.int (0 : Int32)) := D1 (Or.inl (hw _ (List.mem_of_getElem? (i := 93) rfl))) (ty := .boolean) (by decide)
  refine Go.step (st1) ?_
  show Go _ _ _ _ _ _ _ T1 (mkF m 44 #[.val (.int i0), .val (.int i1), .val (.int i2), .val (.int i3), .val (.int (Int32.ofNat W)), .val (.int (Int32.ofNat H)), .val (.int (Int32.ofNat (W + H))), .val (.int (Int32.ofNat A)), .val (.int (Int32.ofNat B)), .unset, .unset, .unset, .unset, .unset, .unset, .unset, .unset, .unset] [(.ref b1)])
  refine Go.step (fun tt kk => XS.dup X1.here hx rfl (hb hby at_44) rfl rfl kk) ?_
  show Go _ _ _ _ _ _ _ T1 (mkF m 45 #[.val (.int i0), .val (.int i1), .val (.int i2), .val (.int i3), .val (.int (Int32.ofNat W)), .val (.int (Int32.ofNat H)), .val (.int (Int32.ofNat (W + H))), .val (.int (Int32.ofNat A)), .val (.int (Int32.ofNat B)), .unset, .unset, .unset, .unset, .unset, .unset, .unset, .unset, .unset] [(.ref b1), (.ref b1)])
  refine Go.step (fun tt kk => XS.iload X1.here hx rfl (hb hby at_45) rfl kk) ?_
  show Go _ _ _ _ _ _ _ T1 (mkF m 47 #[.val (.int i0), .val (.int i1), .val (.int i2), .val (.int i3), .val (.int (Int32.ofNat W)), .val (.int (Int32.ofNat H)), .val (.int (Int32.ofNat (W + H))), .val (.int (Int32.ofNat A)), .val (.int (Int32.ofNat B)), .unset, .unset, .unset, .unset, .unset, .unset, .unset, .unset, .unset] [(.int (Int32.ofNat W)), (.ref b1), (.ref b1)])
  refine Go.step (fun tt kk => XS.iload X1.here hx rfl (hb hby at_47) rfl kk) ?_
  show Go _ _ _ _ _ _ _ T1 (mkF m 49 #[.val (.int i0), .val (.int i1), .val (.int i2), .val (.int i3), .val (.int (Int32.ofNat W)), .val (.int (Int32.ofNat H)), .val (.int (Int32.ofNat (W + H))), .val (.int (Int32.ofNat A)), .val (.int (Int32.ofNat B)), .unset, .unset, .unset, .unset, .unset, .unset, .unset, .unset, .unset] [(.int (Int32.ofNat H)), (.int (Int32.ofNat W)), (.ref b1), (.ref b1)])
  obtain ⟨v2, T2, L2, X2, q2, st2⟩ := c_init X1 hx hZ hown (y := (⟨"com/example/gridwright/gridwright/engine/SmallDraft", "<init>", "(II)V"⟩ : MethodName)) (hw _ (List.mem_of_getElem? (i := 4) rfl)) (hw _ (List.mem_of_getElem? (i := 5) rfl)) (hw _ (List.mem_of_getElem? (i := 3) rfl)) (hw _ (List.mem_of_getElem? (i := 6) rfl)) rfl (by decide) (a := b1) (argsL := [(.int (Int32.ofNat W)), (.int (Int32.ofNat H))]) (rest := [(.ref b1)]) (rmSi l Z a0 hw [] b1 W H h1 n0 Z1 A1 F1_width F1_height F1_taken F1_decided F1_grid F1_filled F1_empty F1_changedRows F1_changedColumns F1_waitingRows F1_waitingColumns F1_rows gn_b1 hW1 hW hH1 hH) e1 pd_2 rfl (by rw [hml]; rfl) (W := 1) (by show 2 * 0 + _ ≤ _; exact Nat.le_of_eq rfl) (by decide) (by decide) (by decide) (by decide) (hb hby at_49) (Ls := #[.val (.int i0), .val (.int i1), .val (.int i2), .val (.int i3), .val (.int (Int32.ofNat W)), .val (.int (Int32.ofNat H)), .val (.int (Int32.ofNat (W + H))), .val (.int (Int32.ofNat A)), .val (.int (Int32.ofNat B)), .unset, .unset, .unset, .unset, .unset, .unset, .unset, .unset, .unset])
  generalize e2 : T2.heap = h2 at q2
  obtain ⟨x2_0, x2_1, rfl, N2q, K2q, E2q, F2q0, F2q1, F2q2, F2q3, F2q4, F2q5, F2q6, F2q7, F2q8, F2q9, F2q10, F2q11⟩ := q2
  have N2 := Fr.app N0 N2q
  have Z2 : n0 ≤ h2.size := Nat.le_trans Z1 K2q.1
  refine Go.step (st2) ?_
  show Go _ _ _ _ _ _ _ T2 (mkF m 52 #[.val (.int i0), .val (.int i1), .val (.int i2), .val (.int i3), .val (.int (Int32.ofNat W)), .val (.int (Int32.ofNat H)), .val (.int (Int32.ofNat (W + H))), .val (.int (Int32.ofNat A)), .val (.int (Int32.ofNat B)), .unset, .unset, .unset, .unset, .unset, .unset, .unset, .unset, .unset] [(.ref b1)])
  refine Go.step (fun tt kk => XS.astore X2.here hx rfl (hb hby at_52) rfl rfl (l' := #[.val (.int i0), .val (.int i1), .val (.int i2), .val (.int i3), .val (.int (Int32.ofNat W)), .val (.int (Int32.ofNat H)), .val (.int (Int32.ofNat (W + H))), .val (.int (Int32.ofNat A)), .val (.int (Int32.ofNat B)), .val (.ref b1), .unset, .unset, .unset, .unset, .unset, .unset, .unset, .unset]) rfl kk) ?_
  show Go _ _ _ _ _ _ _ T2 (mkF m 54 #[.val (.int i0), .val (.int i1), .val (.int i2), .val (.int i3), .val (.int (Int32.ofNat W)), .val (.int (Int32.ofNat H)), .val (.int (Int32.ofNat (W + H))), .val (.int (Int32.ofNat A)), .val (.int (Int32.ofNat B)), .val (.ref b1), .unset, .unset, .unset, .unset, .unset, .unset, .unset, .unset] [])
  refine Go.step (fun tt kk => XS.aload X2.here hx rfl (hb hby at_54) rfl rfl kk) ?_
  show Go _ _ _ _ _ _ _ T2 (mkF m 56 #[.val (.int i0), .val (.int i1), .val (.int i2), .val (.int i3), .val (.int (Int32.ofNat W)), .val (.int (Int32.ofNat H)), .val (.int (Int32.ofNat (W + H))), .val (.int (Int32.ofNat A)), .val (.int (Int32.ofNat B)), .val (.ref b1), .unset, .unset, .unset, .unset, .unset, .unset, .unset, .unset] [(.ref b1)])
  obtain ⟨T3, h3, X3, e3, E3, A3, D3, -, st3⟩ := newO X2 hx hZ hown (hw _ (List.mem_of_getElem? (i := 24) rfl)) (hw _ (List.mem_of_getElem? (i := 25) rfl)) (hw _ (List.mem_of_getElem? (i := 26) rfl)) e2 (g := (mkF m 56 #[.val (.int i0), .val (.int i1), .val (.int i2), .val (.int i3), .val (.int (Int32.ofNat W)), .val (.int (Int32.ofNat H)), .val (.int (Int32.ofNat (W + H))), .val (.int (Int32.ofNat A)), .val (.int (Int32.ofNat B)), .val (.ref b1), .unset, .unset, .unset, .unset, .unset, .unset, .unset, .unset] [(.ref b1)])) rfl (hb hby at_56) (by decide) (by decide)
  obtain ⟨b3, g3⟩ : ∃ z, z = h2.size := ⟨_, rfl⟩
  rw [← g3] at A3 D3 st3
  have ne_b1_b3 : b1 ≠ b3 := Nat.ne_of_lt (Nat.lt_of_lt_of_le E2q.lt (Nat.le_of_eq g3.symm))
  have gn_b3 : n0 ≤ b3 := Nat.le_trans Z2 (Nat.le_of_eq g3.symm)
  have Z3 : n0 ≤ h3.size := Nat.le_trans Z2 E3.1
  have F3_width : Fld Z h3 b3 "com/example/gridwright/gridwright/engine/Grid" "width" "I" (.int (0 : Int32)) := D3 (Or.inr (hw _ (List.mem_of_getElem? (i := 32) rfl))) (ty := .int) (by decide)
  have F3_height : Fld Z h3 b3 "com/example/gridwright/gridwright/engine/Grid" "height" "I" (.int (0 : Int32)) := D3 (Or.inr (hw _ (List.mem_of_getElem? (i := 34) rfl))) (ty := .int) (by decide)
  have F3_cells : Fld Z h3 b3 "com/example/gridwright/gridwright/engine/Grid" "cells" "[B" .null := D3 (Or.inr (hw _ (List.mem_of_getElem? (i := 41) rfl))) (ty := (.array .byte)) (by decide)
  have F3_rowFactor : Fld Z h3 b3 "com/example/gridwright/gridwright/engine/Grid" "rowFactor" "J" (.long (0 : Int64)) := D3 (Or.inr (hw _ (List.mem_of_getElem? (i := 44) rfl))) (ty := .long) (by decide)
  have F3_stride : Fld Z h3 b3 "com/example/gridwright/gridwright/engine/Grid" "stride" "I" (.int (0 : Int32)) := D3 (Or.inr (hw _ (List.mem_of_getElem? (i := 52) rfl))) (ty := .int) (by decide)
  have F3_filled : Fld Z h3 b3 "com/example/gridwright/gridwright/engine/Grid" "filled" "[J" .null := D3 (Or.inr (hw _ (List.mem_of_getElem? (i := 54) rfl))) (ty := (.array .long)) (by decide)
  have F3_empty : Fld Z h3 b3 "com/example/gridwright/gridwright/engine/Grid" "empty" "[J" .null := D3 (Or.inr (hw _ (List.mem_of_getElem? (i := 56) rfl))) (ty := (.array .long)) (by decide)
  refine Go.step (st3) ?_
  show Go _ _ _ _ _ _ _ T3 (mkF m 59 #[.val (.int i0), .val (.int i1), .val (.int i2), .val (.int i3), .val (.int (Int32.ofNat W)), .val (.int (Int32.ofNat H)), .val (.int (Int32.ofNat (W + H))), .val (.int (Int32.ofNat A)), .val (.int (Int32.ofNat B)), .val (.ref b1), .unset, .unset, .unset, .unset, .unset, .unset, .unset, .unset] [(.ref b3), (.ref b1)])
  refine Go.step (fun tt kk => XS.dup X3.here hx rfl (hb hby at_59) rfl rfl kk) ?_
  show Go _ _ _ _ _ _ _ T3 (mkF m 60 #[.val (.int i0), .val (.int i1), .val (.int i2), .val (.int i3), .val (.int (Int32.ofNat W)), .val (.int (Int32.ofNat H)), .val (.int (Int32.ofNat (W + H))), .val (.int (Int32.ofNat A)), .val (.int (Int32.ofNat B)), .val (.ref b1), .unset, .unset, .unset, .unset, .unset, .unset, .unset, .unset] [(.ref b3), (.ref b3), (.ref b1)])
  refine Go.step (fun tt kk => XS.iload X3.here hx rfl (hb hby at_60) rfl kk) ?_
  show Go _ _ _ _ _ _ _ T3 (mkF m 62 #[.val (.int i0), .val (.int i1), .val (.int i2), .val (.int i3), .val (.int (Int32.ofNat W)), .val (.int (Int32.ofNat H)), .val (.int (Int32.ofNat (W + H))), .val (.int (Int32.ofNat A)), .val (.int (Int32.ofNat B)), .val (.ref b1), .unset, .unset, .unset, .unset, .unset, .unset, .unset, .unset] [(.int (Int32.ofNat W)), (.ref b3), (.ref b3), (.ref b1)])
  refine Go.step (fun tt kk => XS.iload X3.here hx rfl (hb hby at_62) rfl kk) ?_
  show Go _ _ _ _ _ _ _ T3 (mkF m 64 #[.val (.int i0), .val (.int i1), .val (.int i2), .val (.int i3), .val (.int (Int32.ofNat W)), .val (.int (Int32.ofNat H)), .val (.int (Int32.ofNat (W + H))), .val (.int (Int32.ofNat A)), .val (.int (Int32.ofNat B)), .val (.ref b1), .unset, .unset, .unset, .unset, .unset, .unset, .unset, .unset] [(.int (Int32.ofNat H)), (.int (Int32.ofNat W)), (.ref b3), (.ref b3), (.ref b1)])
  obtain ⟨v4, T4, L4, X4, q4, st4⟩ := c_init X3 hx hZ hown (y := (⟨"com/example/gridwright/gridwright/engine/Grid", "<init>", "(II)V"⟩ : MethodName)) (hw _ (List.mem_of_getElem? (i := 27) rfl)) (hw _ (List.mem_of_getElem? (i := 28) rfl)) (hw _ (List.mem_of_getElem? (i := 26) rfl)) (hw _ (List.mem_of_getElem? (i := 29) rfl)) rfl (by decide) (a := b3) (argsL := [(.int (Int32.ofNat W)), (.int (Int32.ofNat H))]) (rest := [(.ref b3), (.ref b1)]) (rmGi l Z a0 hw [] b3 W H h3 n0 Z3 hW1 hW hH1 hH A3 F3_width F3_height F3_cells F3_rowFactor F3_stride F3_filled F3_empty gn_b3) e3 pd_2 rfl (by rw [hml]; rfl) (W := 2) (by show 2 * 0 + _ ≤ _; exact Nat.le_of_eq rfl) (by decide) (by decide) (by decide) (by decide) (hb hby at_64) (Ls := #[.val (.int i0), .val (.int i1), .val (.int i2), .val (.int i3), .val (.int (Int32.ofNat W)), .val (.int (Int32.ofNat H)), .val (.int (Int32.ofNat (W + H))), .val (.int (Int32.ofNat A)), .val (.int (Int32.ofNat B)), .val (.ref b1), .unset, .unset, .unset, .unset, .unset, .unset, .unset, .unset])
  generalize e4 : T4.heap = h4 at q4
  obtain ⟨rfl, N4q, K4q, E4q, F4q0, F4q1⟩ := q4
  have N4 := Fr.app N2 N4q
  have Z4 : n0 ≤ h4.size := Nat.le_trans Z3 K4q.1
  refine Go.step (st4) ?_
  show Go _ _ _ _ _ _ _ T4 (mkF m 67 #[.val (.int i0), .val (.int i1), .val (.int i2), .val (.int i3), .val (.int (Int32.ofNat W)), .val (.int (Int32.ofNat H)), .val (.int (Int32.ofNat (W + H))), .val (.int (Int32.ofNat A)), .val (.int (Int32.ofNat B)), .val (.ref b1), .unset, .unset, .unset, .unset, .unset, .unset, .unset, .unset] [(.ref b3), (.ref b1)])
  have f6 := ((Exa.ext E3 E2q).keep K4q)
  have f7 := ((Fld.ext E3 F2q0).keep K4q (ninS ne_b1_b3 nin0))
  have f8 := ((Fld.ext E3 F2q1).keep K4q (ninS ne_b1_b3 nin0))
  have f9 := ((Fld.ext E3 F2q2).keep K4q (ninS ne_b1_b3 nin0))
  have f10 := ((Fld.ext E3 F2q3).keep K4q (ninS ne_b1_b3 nin0))
  have f11 := ((Fld.ext E3 F2q4).keep K4q (ninS ne_b1_b3 nin0))
  have f12 := ((Fld.ext E3 F2q5).keep K4q (ninS ne_b1_b3 nin0))
  have f13 := ((Fld.ext E3 F2q6).keep K4q (ninS ne_b1_b3 nin0))
  have f14 := ((Fld.ext E3 F2q7).keep K4q (ninS ne_b1_b3 nin0))
  have f15 := ((Fld.ext E3 F2q8).keep K4q (ninS ne_b1_b3 nin0))
  have f16 := ((Fld.ext E3 F2q9).keep K4q (ninS ne_b1_b3 nin0))
  have f17 := ((Fld.ext E3 F2q10).keep K4q (ninS ne_b1_b3 nin0))
  have f18 := ((Fld.ext E3 F2q11).keep K4q (ninS ne_b1_b3 nin0))
  obtain ⟨v5, T5, L5, X5, q5, st5⟩ := c_virtUp X4 hx hZ hown (y' := (⟨"com/example/gridwright/gridwright/engine/SmallDraft", "start", "(Lcom/example/gridwright/gridwright/engine/Grid;)V"⟩ : MethodName)) (y := (⟨"com/example/gridwright/gridwright/engine/Draft", "start", "(Lcom/example/gridwright/gridwright/engine/Grid;)V"⟩ : MethodName)) (C := "com/example/gridwright/gridwright/engine/SmallDraft") (owner := "com/example/gridwright/gridwright/engine/Draft") (hw _ (List.mem_of_getElem? (i := 57) rfl)) (hw _ (List.mem_of_getElem? (i := 58) rfl)) (hw _ (List.mem_of_getElem? (i := 59) rfl)) (hw _ (List.mem_of_getElem? (i := 61) rfl)) (hw _ (List.mem_of_getElem? (i := 60) rfl)) (hw _ (List.mem_of_getElem? (i := 10) rfl)) (hw _ (List.mem_of_getElem? (i := 62) rfl)) (by decide) (a := b1) (argsL := [(.ref b3)]) (rest := []) (rmSt l Z a0 hw [] b1 b3 W H (0 : Int64) (0 : Int32) .null x2_0 x2_1 (0 : Int64) (0 : Int64) (0 : Int32) h4 n0 Z4 f6 f7 f8 f9 f10 f11 f12 f13 f14 f15 f16 f17 f18 gn_b1 E4q F4q0 F4q1 ne_b1_b3) e4 f6 pd_4 rfl (by rw [hml]; rfl) (W := 0) (by show 2 * 0 + _ ≤ _; exact Nat.le_of_eq rfl) (by decide) (by decide) (by decide) (by decide) (hb hby at_67) (Ls := #[.val (.int i0), .val (.int i1), .val (.int i2), .val (.int i3), .val (.int (Int32.ofNat W)), .val (.int (Int32.ofNat H)), .val (.int (Int32.ofNat (W + H))), .val (.int (Int32.ofNat A)), .val (.int (Int32.ofNat B)), .val (.ref b1), .unset, .unset, .unset, .unset, .unset, .unset, .unset, .unset])
  generalize e5 : T5.heap = h5 at q5
  obtain ⟨rfl, N5q, K5q, E5q, F5q0, F5q1, F5q2, F5q3, F5q4, F5q5, F5q6, F5q7, F5q8, F5q9, F5q10, F5q11⟩ := q5
  have N5 := Fr.app N4 N5q
  have Z5 : n0 ≤ h5.size := Nat.le_trans Z4 K5q.1
  refine Go.step (st5) ?_
  show Go _ _ _ _ _ _ _ T5 (mkF m 70 #[.val (.int i0), .val (.int i1), .val (.int i2), .val (.int i3), .val (.int (Int32.ofNat W)), .val (.int (Int32.ofNat H)), .val (.int (Int32.ofNat (W + H))), .val (.int (Int32.ofNat A)), .val (.int (Int32.ofNat B)), .val (.ref b1), .unset, .unset, .unset, .unset, .unset, .unset, .unset, .unset] [])
  by_cases hA0 : A < H
  · by_cases hB0 : B < H
    · by_cases hAB : A = B
      · show Go _ _ _ _ _ _ _ T5 (mkF m 70 #[.val (.int i0), .val (.int i1), .val (.int i2), .val (.int i3), .val (.int (Int32.ofNat W)), .val (.int (Int32.ofNat H)), .val (.int (Int32.ofNat (W + H))), .val (.int (Int32.ofNat A)), .val (.int (Int32.ofNat B)), .val (.ref b1), .unset, .unset, .unset, .unset, .unset, .unset, .unset, .unset] [])
        refine Go.step (fun tt kk => XS.aload X5.here hx rfl (hb hby at_70) rfl rfl kk) ?_
        show Go _ _ _ _ _ _ _ T5 (mkF m 72 #[.val (.int i0), .val (.int i1), .val (.int i2), .val (.int i3), .val (.int (Int32.ofNat W)), .val (.int (Int32.ofNat H)), .val (.int (Int32.ofNat (W + H))), .val (.int (Int32.ofNat A)), .val (.int (Int32.ofNat B)), .val (.ref b1), .unset, .unset, .unset, .unset, .unset, .unset, .unset, .unset] [(.ref b1)])
        refine Go.step (fun tt kk => XS.iload X5.here hx rfl (hb hby at_72) rfl kk) ?_
        show Go _ _ _ _ _ _ _ T5 (mkF m 74 #[.val (.int i0), .val (.int i1), .val (.int i2), .val (.int i3), .val (.int (Int32.ofNat W)), .val (.int (Int32.ofNat H)), .val (.int (Int32.ofNat (W + H))), .val (.int (Int32.ofNat A)), .val (.int (Int32.ofNat B)), .val (.ref b1), .unset, .unset, .unset, .unset, .unset, .unset, .unset, .unset] [(.int (Int32.ofNat A)), (.ref b1)])
        obtain ⟨v19, T19, L19, X19, q19, st19⟩ := c_virt X5 hx hZ hown (y' := (⟨"com/example/gridwright/gridwright/engine/SmallDraft", "await", "(I)V"⟩ : MethodName)) (y := (⟨"com/example/gridwright/gridwright/engine/SmallDraft", "await", "(I)V"⟩ : MethodName)) (C := "com/example/gridwright/gridwright/engine/SmallDraft") (hw _ (List.mem_of_getElem? (i := 94) rfl)) (hw _ (List.mem_of_getElem? (i := 95) rfl)) (notFace_of_selects (args := #[]) (mvT hZ (hw _ (List.mem_of_getElem? (i := 97) rfl)))) (hw _ (List.mem_of_getElem? (i := 97) rfl)) (hw _ (List.mem_of_getElem? (i := 96) rfl)) (hw _ (List.mem_of_getElem? (i := 3) rfl)) (hw _ (List.mem_of_getElem? (i := 98) rfl)) (by decide) (a := b1) (argsL := [(.int (Int32.ofNat A))]) (rest := []) (rmAr l Z a0 hw [] b1 A W H (0 : Int64) (0 : Int32) (.ref b3) x2_0 x2_1 (0 : Int64) (0 : Int64) (1 : Int32) h5 n0 Z5 E5q F5q0 F5q1 F5q2 F5q3 F5q4 F5q5 F5q6 F5q7 F5q8 F5q9 F5q10 F5q11 gn_b1 (by omega) (by omega) hA0) e5 E5q pd_6 rfl (by rw [hml]; rfl) (W := 0) (by show 2 * 0 + _ ≤ _; exact Nat.le_of_eq rfl) (by decide) (by decide) (by decide) (by decide) (hb hby at_74) (Ls := #[.val (.int i0), .val (.int i1), .val (.int i2), .val (.int i3), .val (.int (Int32.ofNat W)), .val (.int (Int32.ofNat H)), .val (.int (Int32.ofNat (W + H))), .val (.int (Int32.ofNat A)), .val (.int (Int32.ofNat B)), .val (.ref b1), .unset, .unset, .unset, .unset, .unset, .unset, .unset, .unset])
        generalize e19 : T19.heap = h19 at q19
        obtain ⟨rfl, N19q, K19q, E19q, F19q0, F19q1, F19q2, F19q3, F19q4, F19q5, F19q6, F19q7, F19q8, F19q9, F19q10, F19q11⟩ := q19
        have N19 := Fr.app N5 N19q
        have Z19 : n0 ≤ h19.size := Nat.le_trans Z5 K19q.1
        refine Go.step (st19) ?_
        show Go _ _ _ _ _ _ _ T19 (mkF m 77 #[.val (.int i0), .val (.int i1), .val (.int i2), .val (.int i3), .val (.int (Int32.ofNat W)), .val (.int (Int32.ofNat H)), .val (.int (Int32.ofNat (W + H))), .val (.int (Int32.ofNat A)), .val (.int (Int32.ofNat B)), .val (.ref b1), .unset, .unset, .unset, .unset, .unset, .unset, .unset, .unset] [])
        refine Go.step (fun tt kk => XS.aload X19.here hx rfl (hb hby at_77) rfl rfl kk) ?_
        show Go _ _ _ _ _ _ _ T19 (mkF m 79 #[.val (.int i0), .val (.int i1), .val (.int i2), .val (.int i3), .val (.int (Int32.ofNat W)), .val (.int (Int32.ofNat H)), .val (.int (Int32.ofNat (W + H))), .val (.int (Int32.ofNat A)), .val (.int (Int32.ofNat B)), .val (.ref b1), .unset, .unset, .unset, .unset, .unset, .unset, .unset, .unset] [(.ref b1)])
        refine Go.step (fun tt kk => XS.iload X19.here hx rfl (hb hby at_79) rfl kk) ?_
        show Go _ _ _ _ _ _ _ T19 (mkF m 81 #[.val (.int i0), .val (.int i1), .val (.int i2), .val (.int i3), .val (.int (Int32.ofNat W)), .val (.int (Int32.ofNat H)), .val (.int (Int32.ofNat (W + H))), .val (.int (Int32.ofNat A)), .val (.int (Int32.ofNat B)), .val (.ref b1), .unset, .unset, .unset, .unset, .unset, .unset, .unset, .unset] [(.int (Int32.ofNat B)), (.ref b1)])
        obtain ⟨v20, T20, L20, X20, q20, st20⟩ := c_virt X19 hx hZ hown (y' := (⟨"com/example/gridwright/gridwright/engine/SmallDraft", "await", "(I)V"⟩ : MethodName)) (y := (⟨"com/example/gridwright/gridwright/engine/SmallDraft", "await", "(I)V"⟩ : MethodName)) (C := "com/example/gridwright/gridwright/engine/SmallDraft") (hw _ (List.mem_of_getElem? (i := 94) rfl)) (hw _ (List.mem_of_getElem? (i := 95) rfl)) (notFace_of_selects (args := #[]) (mvT hZ (hw _ (List.mem_of_getElem? (i := 97) rfl)))) (hw _ (List.mem_of_getElem? (i := 97) rfl)) (hw _ (List.mem_of_getElem? (i := 96) rfl)) (hw _ (List.mem_of_getElem? (i := 3) rfl)) (hw _ (List.mem_of_getElem? (i := 98) rfl)) (by decide) (a := b1) (argsL := [(.int (Int32.ofNat B))]) (rest := []) (rmAr l Z a0 hw [] b1 B W H (0 : Int64) (0 : Int32) (.ref b3) x2_0 x2_1 ((0 : Int64) ||| (sh (Int32.ofNat A))) (0 : Int64) (1 : Int32) h19 n0 Z19 E19q F19q0 F19q1 F19q2 F19q3 F19q4 F19q5 F19q6 F19q7 F19q8 F19q9 F19q10 F19q11 gn_b1 (by omega) (by omega) hB0) e19 E19q pd_6 rfl (by rw [hml]; rfl) (W := 0) (by show 2 * 0 + _ ≤ _; exact Nat.le_of_eq rfl) (by decide) (by decide) (by decide) (by decide) (hb hby at_81) (Ls := #[.val (.int i0), .val (.int i1), .val (.int i2), .val (.int i3), .val (.int (Int32.ofNat W)), .val (.int (Int32.ofNat H)), .val (.int (Int32.ofNat (W + H))), .val (.int (Int32.ofNat A)), .val (.int (Int32.ofNat B)), .val (.ref b1), .unset, .unset, .unset, .unset, .unset, .unset, .unset, .unset])
        generalize e20 : T20.heap = h20 at q20
        obtain ⟨rfl, N20q, K20q, E20q, F20q0, F20q1, F20q2, F20q3, F20q4, F20q5, F20q6, F20q7, F20q8, F20q9, F20q10, F20q11⟩ := q20
        have N20 := Fr.app N19 N20q
        have Z20 : n0 ≤ h20.size := Nat.le_trans Z19 K20q.1
        refine Go.step (st20) ?_
        show Go _ _ _ _ _ _ _ T20 (mkF m 84 #[.val (.int i0), .val (.int i1), .val (.int i2), .val (.int i3), .val (.int (Int32.ofNat W)), .val (.int (Int32.ofNat H)), .val (.int (Int32.ofNat (W + H))), .val (.int (Int32.ofNat A)), .val (.int (Int32.ofNat B)), .val (.ref b1), .unset, .unset, .unset, .unset, .unset, .unset, .unset, .unset] [])
        refine Go.step (fun tt kk => XS.aload X20.here hx rfl (hb hby at_84) rfl rfl kk) ?_
        show Go _ _ _ _ _ _ _ T20 (mkF m 86 #[.val (.int i0), .val (.int i1), .val (.int i2), .val (.int i3), .val (.int (Int32.ofNat W)), .val (.int (Int32.ofNat H)), .val (.int (Int32.ofNat (W + H))), .val (.int (Int32.ofNat A)), .val (.int (Int32.ofNat B)), .val (.ref b1), .unset, .unset, .unset, .unset, .unset, .unset, .unset, .unset] [(.ref b1)])
        refine Go.step (fun tt kk => XS.iload X20.here hx rfl (hb hby at_86) rfl kk) ?_
        show Go _ _ _ _ _ _ _ T20 (mkF m 88 #[.val (.int i0), .val (.int i1), .val (.int i2), .val (.int i3), .val (.int (Int32.ofNat W)), .val (.int (Int32.ofNat H)), .val (.int (Int32.ofNat (W + H))), .val (.int (Int32.ofNat A)), .val (.int (Int32.ofNat B)), .val (.ref b1), .unset, .unset, .unset, .unset, .unset, .unset, .unset, .unset] [(.int (Int32.ofNat A)), (.ref b1)])
        obtain ⟨v21, T21, L21, X21, q21, st21⟩ := c_virt X20 hx hZ hown (y' := (⟨"com/example/gridwright/gridwright/engine/SmallDraft", "await", "(I)V"⟩ : MethodName)) (y := (⟨"com/example/gridwright/gridwright/engine/SmallDraft", "await", "(I)V"⟩ : MethodName)) (C := "com/example/gridwright/gridwright/engine/SmallDraft") (hw _ (List.mem_of_getElem? (i := 94) rfl)) (hw _ (List.mem_of_getElem? (i := 95) rfl)) (notFace_of_selects (args := #[]) (mvT hZ (hw _ (List.mem_of_getElem? (i := 97) rfl)))) (hw _ (List.mem_of_getElem? (i := 97) rfl)) (hw _ (List.mem_of_getElem? (i := 96) rfl)) (hw _ (List.mem_of_getElem? (i := 3) rfl)) (hw _ (List.mem_of_getElem? (i := 98) rfl)) (by decide) (a := b1) (argsL := [(.int (Int32.ofNat A))]) (rest := []) (rmAr l Z a0 hw [] b1 A W H (0 : Int64) (0 : Int32) (.ref b3) x2_0 x2_1 (((0 : Int64) ||| (sh (Int32.ofNat A))) ||| (sh (Int32.ofNat B))) (0 : Int64) (1 : Int32) h20 n0 Z20 E20q F20q0 F20q1 F20q2 F20q3 F20q4 F20q5 F20q6 F20q7 F20q8 F20q9 F20q10 F20q11 gn_b1 (by omega) (by omega) hA0) e20 E20q pd_6 rfl (by rw [hml]; rfl) (W := 0) (by show 2 * 0 + _ ≤ _; exact Nat.le_of_eq rfl) (by decide) (by decide) (by decide) (by decide) (hb hby at_88) (Ls := #[.val (.int i0), .val (.int i1), .val (.int i2), .val (.int i3), .val (.int (Int32.ofNat W)), .val (.int (Int32.ofNat H)), .val (.int (Int32.ofNat (W + H))), .val (.int (Int32.ofNat A)), .val (.int (Int32.ofNat B)), .val (.ref b1), .unset, .unset, .unset, .unset, .unset, .unset, .unset, .unset])
        generalize e21 : T21.heap = h21 at q21
        obtain ⟨rfl, N21q, K21q, E21q, F21q0, F21q1, F21q2, F21q3, F21q4, F21q5, F21q6, F21q7, F21q8, F21q9, F21q10, F21q11⟩ := q21
        have N21 := Fr.app N20 N21q
        have Z21 : n0 ≤ h21.size := Nat.le_trans Z20 K21q.1
        refine Go.step (st21) ?_
        show Go _ _ _ _ _ _ _ T21 (mkF m 91 #[.val (.int i0), .val (.int i1), .val (.int i2), .val (.int i3), .val (.int (Int32.ofNat W)), .val (.int (Int32.ofNat H)), .val (.int (Int32.ofNat (W + H))), .val (.int (Int32.ofNat A)), .val (.int (Int32.ofNat B)), .val (.ref b1), .unset, .unset, .unset, .unset, .unset, .unset, .unset, .unset] [])
        have f22 : Fld Z h21 b1 "com/example/gridwright/gridwright/engine/SmallDraft" "waitingRows" "J" (.long ((sh (Int32.ofNat A)) ||| (sh (Int32.ofNat B)))) := by
          have q := F21q9
          rwa [own_or0, own_3] at q
        have f23 : Fld Z h21 b1 "com/example/gridwright/gridwright/engine/SmallDraft" "rows" "Z" (.int (bi (true = true))) := by
          have q := F21q11
          exact q
        obtain ⟨t1, t2, t3⟩ := own_bits1 ⟨A, by omega⟩ ⟨B, by omega⟩
        obtain ⟨u1, u2, u3⟩ := own_one ⟨max A B, by omega⟩
        dsimp only at t1 t2 t3 u1 u2 u3
        refine Go.step (fun tt kk => XS.aload X21.here hx rfl (hb hby at_91) rfl rfl kk) ?_
        show Go _ _ _ _ _ _ _ T21 (mkF m 93 #[.val (.int i0), .val (.int i1), .val (.int i2), .val (.int i3), .val (.int (Int32.ofNat W)), .val (.int (Int32.ofNat H)), .val (.int (Int32.ofNat (W + H))), .val (.int (Int32.ofNat A)), .val (.int (Int32.ofNat B)), .val (.ref b1), .unset, .unset, .unset, .unset, .unset, .unset, .unset, .unset] [(.ref b1)])
        obtain ⟨v24, T24, L24, X24, q24, st24⟩ := c_virt X21 hx hZ hown (y' := (⟨"com/example/gridwright/gridwright/engine/SmallDraft", "next", "()I"⟩ : MethodName)) (y := (⟨"com/example/gridwright/gridwright/engine/SmallDraft", "next", "()I"⟩ : MethodName)) (C := "com/example/gridwright/gridwright/engine/SmallDraft") (hw _ (List.mem_of_getElem? (i := 101) rfl)) (hw _ (List.mem_of_getElem? (i := 102) rfl)) (notFace_of_selects (args := #[]) (mvT hZ (hw _ (List.mem_of_getElem? (i := 104) rfl)))) (hw _ (List.mem_of_getElem? (i := 104) rfl)) (hw _ (List.mem_of_getElem? (i := 103) rfl)) (hw _ (List.mem_of_getElem? (i := 3) rfl)) (hw _ (List.mem_of_getElem? (i := 105) rfl)) (by decide) (a := b1) (argsL := []) (rest := []) (rmNr l Z a0 hw [] b1 W H (0 : Int64) (0 : Int32) (.ref b3) x2_0 x2_1 ((sh (Int32.ofNat A)) ||| (sh (Int32.ofNat B))) (0 : Int64) true h21 n0 Z21 E21q F21q0 F21q1 F21q2 F21q3 F21q4 F21q5 F21q6 F21q7 F21q8 f22 F21q10 f23 gn_b1 t2 (Or.inl rfl)) e21 E21q pd_3 rfl (by rw [hml]; rfl) (W := 0) (by show 2 * 0 + _ ≤ _; exact Nat.le_of_eq rfl) (by decide) (by decide) (by decide) (by decide) (hb hby at_93) (Ls := #[.val (.int i0), .val (.int i1), .val (.int i2), .val (.int i3), .val (.int (Int32.ofNat W)), .val (.int (Int32.ofNat H)), .val (.int (Int32.ofNat (W + H))), .val (.int (Int32.ofNat A)), .val (.int (Int32.ofNat B)), .val (.ref b1), .unset, .unset, .unset, .unset, .unset, .unset, .unset, .unset])
        generalize e24 : T24.heap = h24 at q24
        obtain ⟨rfl, N24q, K24q, E24q, F24q0, F24q1, F24q2, F24q3, F24q4, F24q5, F24q6, F24q7, F24q8, F24q9, F24q10, F24q11⟩ := q24
        have N24 := Fr.app N21 N24q
        have Z24 : n0 ≤ h24.size := Nat.le_trans Z21 K24q.1
        refine Go.step (st24) ?_
        show Go _ _ _ _ _ _ _ T24 (mkF m 96 #[.val (.int i0), .val (.int i1), .val (.int i2), .val (.int i3), .val (.int (Int32.ofNat W)), .val (.int (Int32.ofNat H)), .val (.int (Int32.ofNat (W + H))), .val (.int (Int32.ofNat A)), .val (.int (Int32.ofNat B)), .val (.ref b1), .unset, .unset, .unset, .unset, .unset, .unset, .unset, .unset] [(.int (ntz ((sh (Int32.ofNat A)) ||| (sh (Int32.ofNat B)))))])
        refine Go.step (fun tt kk => XS.istore X24.here hx rfl (hb hby at_96) rfl (l' := #[.val (.int i0), .val (.int i1), .val (.int i2), .val (.int i3), .val (.int (Int32.ofNat W)), .val (.int (Int32.ofNat H)), .val (.int (Int32.ofNat (W + H))), .val (.int (Int32.ofNat A)), .val (.int (Int32.ofNat B)), .val (.ref b1), .val (.int (ntz ((sh (Int32.ofNat A)) ||| (sh (Int32.ofNat B))))), .unset, .unset, .unset, .unset, .unset, .unset, .unset]) rfl kk) ?_
        show Go _ _ _ _ _ _ _ T24 (mkF m 98 #[.val (.int i0), .val (.int i1), .val (.int i2), .val (.int i3), .val (.int (Int32.ofNat W)), .val (.int (Int32.ofNat H)), .val (.int (Int32.ofNat (W + H))), .val (.int (Int32.ofNat A)), .val (.int (Int32.ofNat B)), .val (.ref b1), .val (.int (ntz ((sh (Int32.ofNat A)) ||| (sh (Int32.ofNat B))))), .unset, .unset, .unset, .unset, .unset, .unset, .unset] [])
        rw [t1]
        show Go _ _ _ _ _ _ _ T24 (mkF m 98 #[.val (.int i0), .val (.int i1), .val (.int i2), .val (.int i3), .val (.int (Int32.ofNat W)), .val (.int (Int32.ofNat H)), .val (.int (Int32.ofNat (W + H))), .val (.int (Int32.ofNat A)), .val (.int (Int32.ofNat B)), .val (.ref b1), .val (.int (Int32.ofNat (min A B))), .unset, .unset, .unset, .unset, .unset, .unset, .unset] [])
        have f25 : Fld Z h24 b1 "com/example/gridwright/gridwright/engine/SmallDraft" "waitingRows" "J" (.long (0 : Int64)) := by
          have q := F24q9
          rwa [t3, if_pos hAB] at q
        have f26 : Fld Z h24 b1 "com/example/gridwright/gridwright/engine/Draft" "taken" "J" (.long ((0 : Int64) ||| (sh (Int32.ofNat (min A B))))) := by
          have q := F24q2
          rwa [t1] at q
        refine Go.step (fun tt kk => XS.aload X24.here hx rfl (hb hby at_98) rfl rfl kk) ?_
        show Go _ _ _ _ _ _ _ T24 (mkF m 100 #[.val (.int i0), .val (.int i1), .val (.int i2), .val (.int i3), .val (.int (Int32.ofNat W)), .val (.int (Int32.ofNat H)), .val (.int (Int32.ofNat (W + H))), .val (.int (Int32.ofNat A)), .val (.int (Int32.ofNat B)), .val (.ref b1), .val (.int (Int32.ofNat (min A B))), .unset, .unset, .unset, .unset, .unset, .unset, .unset] [(.ref b1)])
        obtain ⟨v27, T27, L27, X27, q27, st27⟩ := c_virt X24 hx hZ hown (y' := (⟨"com/example/gridwright/gridwright/engine/SmallDraft", "next", "()I"⟩ : MethodName)) (y := (⟨"com/example/gridwright/gridwright/engine/SmallDraft", "next", "()I"⟩ : MethodName)) (C := "com/example/gridwright/gridwright/engine/SmallDraft") (hw _ (List.mem_of_getElem? (i := 101) rfl)) (hw _ (List.mem_of_getElem? (i := 102) rfl)) (notFace_of_selects (args := #[]) (mvT hZ (hw _ (List.mem_of_getElem? (i := 104) rfl)))) (hw _ (List.mem_of_getElem? (i := 104) rfl)) (hw _ (List.mem_of_getElem? (i := 103) rfl)) (hw _ (List.mem_of_getElem? (i := 3) rfl)) (hw _ (List.mem_of_getElem? (i := 105) rfl)) (by decide) (a := b1) (argsL := []) (rest := []) (rmNn l Z a0 hw [] b1 W H ((0 : Int64) ||| (sh (Int32.ofNat (min A B)))) (0 : Int32) (.ref b3) x2_0 x2_1 (0 : Int64) (0 : Int64) true h24 n0 Z24 E24q F24q0 F24q1 f26 F24q3 F24q4 F24q5 F24q6 F24q7 F24q8 f25 F24q10 F24q11 gn_b1 rfl rfl) e24 E24q pd_3 rfl (by rw [hml]; rfl) (W := 0) (by show 2 * 0 + _ ≤ _; exact Nat.le_of_eq rfl) (by decide) (by decide) (by decide) (by decide) (hb hby at_100) (Ls := #[.val (.int i0), .val (.int i1), .val (.int i2), .val (.int i3), .val (.int (Int32.ofNat W)), .val (.int (Int32.ofNat H)), .val (.int (Int32.ofNat (W + H))), .val (.int (Int32.ofNat A)), .val (.int (Int32.ofNat B)), .val (.ref b1), .val (.int (Int32.ofNat (min A B))), .unset, .unset, .unset, .unset, .unset, .unset, .unset])
        generalize e27 : T27.heap = h27 at q27
        obtain ⟨rfl, N27q, K27q, E27q, F27q0, F27q1, F27q2, F27q3, F27q4, F27q5, F27q6, F27q7, F27q8, F27q9, F27q10, F27q11⟩ := q27
        have N27 := Fr.app N24 N27q
        have Z27 : n0 ≤ h27.size := Nat.le_trans Z24 K27q.1
        refine Go.step (st27) ?_
        show Go _ _ _ _ _ _ _ T27 (mkF m 103 #[.val (.int i0), .val (.int i1), .val (.int i2), .val (.int i3), .val (.int (Int32.ofNat W)), .val (.int (Int32.ofNat H)), .val (.int (Int32.ofNat (W + H))), .val (.int (Int32.ofNat A)), .val (.int (Int32.ofNat B)), .val (.ref b1), .val (.int (Int32.ofNat (min A B))), .unset, .unset, .unset, .unset, .unset, .unset, .unset] [(.int (-1 : Int32))])
        refine Go.step (fun tt kk => XS.istore X27.here hx rfl (hb hby at_103) rfl (l' := #[.val (.int i0), .val (.int i1), .val (.int i2), .val (.int i3), .val (.int (Int32.ofNat W)), .val (.int (Int32.ofNat H)), .val (.int (Int32.ofNat (W + H))), .val (.int (Int32.ofNat A)), .val (.int (Int32.ofNat B)), .val (.ref b1), .val (.int (Int32.ofNat (min A B))), .val (.int (-1 : Int32)), .unset, .unset, .unset, .unset, .unset, .unset]) rfl kk) ?_
        show Go _ _ _ _ _ _ _ T27 (mkF m 105 #[.val (.int i0), .val (.int i1), .val (.int i2), .val (.int i3), .val (.int (Int32.ofNat W)), .val (.int (Int32.ofNat H)), .val (.int (Int32.ofNat (W + H))), .val (.int (Int32.ofNat A)), .val (.int (Int32.ofNat B)), .val (.ref b1), .val (.int (Int32.ofNat (min A B))), .val (.int (-1 : Int32)), .unset, .unset, .unset, .unset, .unset, .unset] [])
        refine Go.step (fun tt kk => XS.aload X27.here hx rfl (hb hby at_105) rfl rfl kk) ?_
        show Go _ _ _ _ _ _ _ T27 (mkF m 107 #[.val (.int i0), .val (.int i1), .val (.int i2), .val (.int i3), .val (.int (Int32.ofNat W)), .val (.int (Int32.ofNat H)), .val (.int (Int32.ofNat (W + H))), .val (.int (Int32.ofNat A)), .val (.int (Int32.ofNat B)), .val (.ref b1), .val (.int (Int32.ofNat (min A B))), .val (.int (-1 : Int32)), .unset, .unset, .unset, .unset, .unset, .unset] [(.ref b1)])
        obtain ⟨v28, T28, L28, X28, q28, st28⟩ := c_virt X27 hx hZ hown (y' := (⟨"com/example/gridwright/gridwright/engine/SmallDraft", "next", "()I"⟩ : MethodName)) (y := (⟨"com/example/gridwright/gridwright/engine/SmallDraft", "next", "()I"⟩ : MethodName)) (C := "com/example/gridwright/gridwright/engine/SmallDraft") (hw _ (List.mem_of_getElem? (i := 101) rfl)) (hw _ (List.mem_of_getElem? (i := 102) rfl)) (notFace_of_selects (args := #[]) (mvT hZ (hw _ (List.mem_of_getElem? (i := 104) rfl)))) (hw _ (List.mem_of_getElem? (i := 104) rfl)) (hw _ (List.mem_of_getElem? (i := 103) rfl)) (hw _ (List.mem_of_getElem? (i := 3) rfl)) (hw _ (List.mem_of_getElem? (i := 105) rfl)) (by decide) (a := b1) (argsL := []) (rest := []) (rmNn l Z a0 hw [] b1 W H ((0 : Int64) ||| (sh (Int32.ofNat (min A B)))) (0 : Int32) (.ref b3) x2_0 x2_1 (0 : Int64) (0 : Int64) (!true) h27 n0 Z27 E27q F27q0 F27q1 F27q2 F27q3 F27q4 F27q5 F27q6 F27q7 F27q8 F27q9 F27q10 F27q11 gn_b1 rfl rfl) e27 E27q pd_3 rfl (by rw [hml]; rfl) (W := 0) (by show 2 * 0 + _ ≤ _; exact Nat.le_of_eq rfl) (by decide) (by decide) (by decide) (by decide) (hb hby at_107) (Ls := #[.val (.int i0), .val (.int i1), .val (.int i2), .val (.int i3), .val (.int (Int32.ofNat W)), .val (.int (Int32.ofNat H)), .val (.int (Int32.ofNat (W + H))), .val (.int (Int32.ofNat A)), .val (.int (Int32.ofNat B)), .val (.ref b1), .val (.int (Int32.ofNat (min A B))), .val (.int (-1 : Int32)), .unset, .unset, .unset, .unset, .unset, .unset])
        generalize e28 : T28.heap = h28 at q28
        obtain ⟨rfl, N28q, K28q, E28q, F28q0, F28q1, F28q2, F28q3, F28q4, F28q5, F28q6, F28q7, F28q8, F28q9, F28q10, F28q11⟩ := q28
        have N28 := Fr.app N27 N28q
        have Z28 : n0 ≤ h28.size := Nat.le_trans Z27 K28q.1
        refine Go.step (st28) ?_
        show Go _ _ _ _ _ _ _ T28 (mkF m 110 #[.val (.int i0), .val (.int i1), .val (.int i2), .val (.int i3), .val (.int (Int32.ofNat W)), .val (.int (Int32.ofNat H)), .val (.int (Int32.ofNat (W + H))), .val (.int (Int32.ofNat A)), .val (.int (Int32.ofNat B)), .val (.ref b1), .val (.int (Int32.ofNat (min A B))), .val (.int (-1 : Int32)), .unset, .unset, .unset, .unset, .unset, .unset] [(.int (-1 : Int32))])
        refine Go.step (fun tt kk => XS.istore X28.here hx rfl (hb hby at_110) rfl (l' := #[.val (.int i0), .val (.int i1), .val (.int i2), .val (.int i3), .val (.int (Int32.ofNat W)), .val (.int (Int32.ofNat H)), .val (.int (Int32.ofNat (W + H))), .val (.int (Int32.ofNat A)), .val (.int (Int32.ofNat B)), .val (.ref b1), .val (.int (Int32.ofNat (min A B))), .val (.int (-1 : Int32)), .val (.int (-1 : Int32)), .unset, .unset, .unset, .unset, .unset]) rfl kk) ?_
        show Go _ _ _ _ _ _ _ T28 (mkF m 112 #[.val (.int i0), .val (.int i1), .val (.int i2), .val (.int i3), .val (.int (Int32.ofNat W)), .val (.int (Int32.ofNat H)), .val (.int (Int32.ofNat (W + H))), .val (.int (Int32.ofNat A)), .val (.int (Int32.ofNat B)), .val (.ref b1), .val (.int (Int32.ofNat (min A B))), .val (.int (-1 : Int32)), .val (.int (-1 : Int32)), .unset, .unset, .unset, .unset, .unset] [])
        refine Go.step (fun tt kk => XS.iload X28.here hx rfl (hb hby at_112) rfl kk) ?_
        show Go _ _ _ _ _ _ _ T28 (mkF m 114 #[.val (.int i0), .val (.int i1), .val (.int i2), .val (.int i3), .val (.int (Int32.ofNat W)), .val (.int (Int32.ofNat H)), .val (.int (Int32.ofNat (W + H))), .val (.int (Int32.ofNat A)), .val (.int (Int32.ofNat B)), .val (.ref b1), .val (.int (Int32.ofNat (min A B))), .val (.int (-1 : Int32)), .val (.int (-1 : Int32)), .unset, .unset, .unset, .unset, .unset] [(.int (Int32.ofNat A))])
        refine Go.step (fun tt kk => XS.iload X28.here hx rfl (hb hby at_114) rfl kk) ?_
        show Go _ _ _ _ _ _ _ T28 (mkF m 116 #[.val (.int i0), .val (.int i1), .val (.int i2), .val (.int i3), .val (.int (Int32.ofNat W)), .val (.int (Int32.ofNat H)), .val (.int (Int32.ofNat (W + H))), .val (.int (Int32.ofNat A)), .val (.int (Int32.ofNat B)), .val (.ref b1), .val (.int (Int32.ofNat (min A B))), .val (.int (-1 : Int32)), .val (.int (-1 : Int32)), .unset, .unset, .unset, .unset, .unset] [(.int (Int32.ofNat B)), (.int (Int32.ofNat A))])
        obtain ⟨v29, T29, L29, X29, q29, st29⟩ := c_static X28 hx hZ hown (y := (⟨"java/lang/Math", "min", "(II)I"⟩ : MethodName)) (hw _ (List.mem_of_getElem? (i := 117) rfl)) (hw _ (List.mem_of_getElem? (i := 118) rfl)) (hw _ (List.mem_of_getElem? (i := 37) rfl)) (hw _ (List.mem_of_getElem? (i := 119) rfl)) (by decide) (argsL := [(.int (Int32.ofNat A)), (.int (Int32.ofNat B))]) (rest := []) (rmmn l Z a0 hw [] (Int32.ofNat A) (Int32.ofNat B) h28 n0 Z28) e28 pd_0 rfl (by rw [hml]; rfl) (W := 0) (by show 2 * 0 + _ ≤ _; exact Nat.le_of_eq rfl) (by decide) (by decide) (by decide) (by decide) (hb hby at_116) (Ls := #[.val (.int i0), .val (.int i1), .val (.int i2), .val (.int i3), .val (.int (Int32.ofNat W)), .val (.int (Int32.ofNat H)), .val (.int (Int32.ofNat (W + H))), .val (.int (Int32.ofNat A)), .val (.int (Int32.ofNat B)), .val (.ref b1), .val (.int (Int32.ofNat (min A B))), .val (.int (-1 : Int32)), .val (.int (-1 : Int32)), .unset, .unset, .unset, .unset, .unset])
        obtain ⟨rfl, rfl, e29⟩ := q29
        have N29 := Fr.app N28 (Fr.nil n0)
        refine Go.step (st29) ?_
        show Go _ _ _ _ _ _ _ T29 (mkF m 119 #[.val (.int i0), .val (.int i1), .val (.int i2), .val (.int i3), .val (.int (Int32.ofNat W)), .val (.int (Int32.ofNat H)), .val (.int (Int32.ofNat (W + H))), .val (.int (Int32.ofNat A)), .val (.int (Int32.ofNat B)), .val (.ref b1), .val (.int (Int32.ofNat (min A B))), .val (.int (-1 : Int32)), .val (.int (-1 : Int32)), .unset, .unset, .unset, .unset, .unset] [(.int (mn (Int32.ofNat A) (Int32.ofNat B)))])
        rw [own_min _ _ (by omega) (by omega)]
        show Go _ _ _ _ _ _ _ T29 (mkF m 119 #[.val (.int i0), .val (.int i1), .val (.int i2), .val (.int i3), .val (.int (Int32.ofNat W)), .val (.int (Int32.ofNat H)), .val (.int (Int32.ofNat (W + H))), .val (.int (Int32.ofNat A)), .val (.int (Int32.ofNat B)), .val (.ref b1), .val (.int (Int32.ofNat (min A B))), .val (.int (-1 : Int32)), .val (.int (-1 : Int32)), .unset, .unset, .unset, .unset, .unset] [(.int (Int32.ofNat (min A B)))])
        refine Go.step (fun tt kk => XS.istore X29.here hx rfl (hb hby at_119) rfl (l' := #[.val (.int i0), .val (.int i1), .val (.int i2), .val (.int i3), .val (.int (Int32.ofNat W)), .val (.int (Int32.ofNat H)), .val (.int (Int32.ofNat (W + H))), .val (.int (Int32.ofNat A)), .val (.int (Int32.ofNat B)), .val (.ref b1), .val (.int (Int32.ofNat (min A B))), .val (.int (-1 : Int32)), .val (.int (-1 : Int32)), .val (.int (Int32.ofNat (min A B))), .unset, .unset, .unset, .unset]) rfl kk) ?_
        show Go _ _ _ _ _ _ _ T29 (mkF m 121 #[.val (.int i0), .val (.int i1), .val (.int i2), .val (.int i3), .val (.int (Int32.ofNat W)), .val (.int (Int32.ofNat H)), .val (.int (Int32.ofNat (W + H))), .val (.int (Int32.ofNat A)), .val (.int (Int32.ofNat B)), .val (.ref b1), .val (.int (Int32.ofNat (min A B))), .val (.int (-1 : Int32)), .val (.int (-1 : Int32)), .val (.int (Int32.ofNat (min A B))), .unset, .unset, .unset, .unset] [])
        refine Go.step (fun tt kk => XS.iload X29.here hx rfl (hb hby at_121) rfl kk) ?_
        show Go _ _ _ _ _ _ _ T29 (mkF m 123 #[.val (.int i0), .val (.int i1), .val (.int i2), .val (.int i3), .val (.int (Int32.ofNat W)), .val (.int (Int32.ofNat H)), .val (.int (Int32.ofNat (W + H))), .val (.int (Int32.ofNat A)), .val (.int (Int32.ofNat B)), .val (.ref b1), .val (.int (Int32.ofNat (min A B))), .val (.int (-1 : Int32)), .val (.int (-1 : Int32)), .val (.int (Int32.ofNat (min A B))), .unset, .unset, .unset, .unset] [(.int (Int32.ofNat A))])
        refine Go.step (fun tt kk => XS.iload X29.here hx rfl (hb hby at_123) rfl kk) ?_
        show Go _ _ _ _ _ _ _ T29 (mkF m 125 #[.val (.int i0), .val (.int i1), .val (.int i2), .val (.int i3), .val (.int (Int32.ofNat W)), .val (.int (Int32.ofNat H)), .val (.int (Int32.ofNat (W + H))), .val (.int (Int32.ofNat A)), .val (.int (Int32.ofNat B)), .val (.ref b1), .val (.int (Int32.ofNat (min A B))), .val (.int (-1 : Int32)), .val (.int (-1 : Int32)), .val (.int (Int32.ofNat (min A B))), .unset, .unset, .unset, .unset] [(.int (Int32.ofNat B)), (.int (Int32.ofNat A))])
        obtain ⟨v30, T30, L30, X30, q30, st30⟩ := c_static X29 hx hZ hown (y := (⟨"java/lang/Math", "max", "(II)I"⟩ : MethodName)) (hw _ (List.mem_of_getElem? (i := 120) rfl)) (hw _ (List.mem_of_getElem? (i := 46) rfl)) (hw _ (List.mem_of_getElem? (i := 37) rfl)) (hw _ (List.mem_of_getElem? (i := 47) rfl)) (by decide) (argsL := [(.int (Int32.ofNat A)), (.int (Int32.ofNat B))]) (rest := []) (rmmx l Z a0 hw [] (Int32.ofNat A) (Int32.ofNat B) h28 n0 Z28) e29 pd_0 rfl (by rw [hml]; rfl) (W := 0) (by show 2 * 0 + _ ≤ _; exact Nat.le_of_eq rfl) (by decide) (by decide) (by decide) (by decide) (hb hby at_125) (Ls := #[.val (.int i0), .val (.int i1), .val (.int i2), .val (.int i3), .val (.int (Int32.ofNat W)), .val (.int (Int32.ofNat H)), .val (.int (Int32.ofNat (W + H))), .val (.int (Int32.ofNat A)), .val (.int (Int32.ofNat B)), .val (.ref b1), .val (.int (Int32.ofNat (min A B))), .val (.int (-1 : Int32)), .val (.int (-1 : Int32)), .val (.int (Int32.ofNat (min A B))), .unset, .unset, .unset, .unset])
        obtain ⟨rfl, rfl, e30⟩ := q30
        have N30 := Fr.app N29 (Fr.nil n0)
        refine Go.step (st30) ?_
        show Go _ _ _ _ _ _ _ T30 (mkF m 128 #[.val (.int i0), .val (.int i1), .val (.int i2), .val (.int i3), .val (.int (Int32.ofNat W)), .val (.int (Int32.ofNat H)), .val (.int (Int32.ofNat (W + H))), .val (.int (Int32.ofNat A)), .val (.int (Int32.ofNat B)), .val (.ref b1), .val (.int (Int32.ofNat (min A B))), .val (.int (-1 : Int32)), .val (.int (-1 : Int32)), .val (.int (Int32.ofNat (min A B))), .unset, .unset, .unset, .unset] [(.int (mx (Int32.ofNat A) (Int32.ofNat B)))])
        rw [own_max _ _ (by omega) (by omega)]
        show Go _ _ _ _ _ _ _ T30 (mkF m 128 #[.val (.int i0), .val (.int i1), .val (.int i2), .val (.int i3), .val (.int (Int32.ofNat W)), .val (.int (Int32.ofNat H)), .val (.int (Int32.ofNat (W + H))), .val (.int (Int32.ofNat A)), .val (.int (Int32.ofNat B)), .val (.ref b1), .val (.int (Int32.ofNat (min A B))), .val (.int (-1 : Int32)), .val (.int (-1 : Int32)), .val (.int (Int32.ofNat (min A B))), .unset, .unset, .unset, .unset] [(.int (Int32.ofNat (max A B)))])
        refine Go.step (fun tt kk => XS.istore X30.here hx rfl (hb hby at_128) rfl (l' := #[.val (.int i0), .val (.int i1), .val (.int i2), .val (.int i3), .val (.int (Int32.ofNat W)), .val (.int (Int32.ofNat H)), .val (.int (Int32.ofNat (W + H))), .val (.int (Int32.ofNat A)), .val (.int (Int32.ofNat B)), .val (.ref b1), .val (.int (Int32.ofNat (min A B))), .val (.int (-1 : Int32)), .val (.int (-1 : Int32)), .val (.int (Int32.ofNat (min A B))), .val (.int (Int32.ofNat (max A B))), .unset, .unset, .unset]) rfl kk) ?_
        show Go _ _ _ _ _ _ _ T30 (mkF m 130 #[.val (.int i0), .val (.int i1), .val (.int i2), .val (.int i3), .val (.int (Int32.ofNat W)), .val (.int (Int32.ofNat H)), .val (.int (Int32.ofNat (W + H))), .val (.int (Int32.ofNat A)), .val (.int (Int32.ofNat B)), .val (.ref b1), .val (.int (Int32.ofNat (min A B))), .val (.int (-1 : Int32)), .val (.int (-1 : Int32)), .val (.int (Int32.ofNat (min A B))), .val (.int (Int32.ofNat (max A B))), .unset, .unset, .unset] [])
        refine Go.step (fun tt kk => XS.iload X30.here hx rfl (hb hby at_130) rfl kk) ?_
        show Go _ _ _ _ _ _ _ T30 (mkF m 132 #[.val (.int i0), .val (.int i1), .val (.int i2), .val (.int i3), .val (.int (Int32.ofNat W)), .val (.int (Int32.ofNat H)), .val (.int (Int32.ofNat (W + H))), .val (.int (Int32.ofNat A)), .val (.int (Int32.ofNat B)), .val (.ref b1), .val (.int (Int32.ofNat (min A B))), .val (.int (-1 : Int32)), .val (.int (-1 : Int32)), .val (.int (Int32.ofNat (min A B))), .val (.int (Int32.ofNat (max A B))), .unset, .unset, .unset] [(.int (Int32.ofNat (max A B)))])
        refine Go.step (fun tt kk => XS.iload X30.here hx rfl (hb hby at_132) rfl kk) ?_
        show Go _ _ _ _ _ _ _ T30 (mkF m 134 #[.val (.int i0), .val (.int i1), .val (.int i2), .val (.int i3), .val (.int (Int32.ofNat W)), .val (.int (Int32.ofNat H)), .val (.int (Int32.ofNat (W + H))), .val (.int (Int32.ofNat A)), .val (.int (Int32.ofNat B)), .val (.ref b1), .val (.int (Int32.ofNat (min A B))), .val (.int (-1 : Int32)), .val (.int (-1 : Int32)), .val (.int (Int32.ofNat (min A B))), .val (.int (Int32.ofNat (max A B))), .unset, .unset, .unset] [(.int (Int32.ofNat (min A B))), (.int (Int32.ofNat (max A B)))])
        refine Go.step (fun tt kk => XS.icmpYes X30.here hx rfl (pc0 := 134) (pc' := 142) rfl (hb hby at_134) rfl (teq ((own_eq _ _ (by omega) (by omega)).mpr (by omega))).1 (by decide) (by decide) kk) ?_
        show Go _ _ _ _ _ _ _ T30 (mkF m 142 #[.val (.int i0), .val (.int i1), .val (.int i2), .val (.int i3), .val (.int (Int32.ofNat W)), .val (.int (Int32.ofNat H)), .val (.int (Int32.ofNat (W + H))), .val (.int (Int32.ofNat A)), .val (.int (Int32.ofNat B)), .val (.ref b1), .val (.int (Int32.ofNat (min A B))), .val (.int (-1 : Int32)), .val (.int (-1 : Int32)), .val (.int (Int32.ofNat (min A B))), .val (.int (Int32.ofNat (max A B))), .unset, .unset, .unset] [])
        refine Go.step (fun tt kk => XS.iconst X30.here hx rfl (hb hby at_142) kk) ?_
        show Go _ _ _ _ _ _ _ T30 (mkF m 143 #[.val (.int i0), .val (.int i1), .val (.int i2), .val (.int i3), .val (.int (Int32.ofNat W)), .val (.int (Int32.ofNat H)), .val (.int (Int32.ofNat (W + H))), .val (.int (Int32.ofNat A)), .val (.int (Int32.ofNat B)), .val (.ref b1), .val (.int (Int32.ofNat (min A B))), .val (.int (-1 : Int32)), .val (.int (-1 : Int32)), .val (.int (Int32.ofNat (min A B))), .val (.int (Int32.ofNat (max A B))), .unset, .unset, .unset] [(.int (-1 : Int32))])
        refine Go.step (fun tt kk => XS.istore X30.here hx rfl (hb hby at_143) rfl (l' := #[.val (.int i0), .val (.int i1), .val (.int i2), .val (.int i3), .val (.int (Int32.ofNat W)), .val (.int (Int32.ofNat H)), .val (.int (Int32.ofNat (W + H))), .val (.int (Int32.ofNat A)), .val (.int (Int32.ofNat B)), .val (.ref b1), .val (.int (Int32.ofNat (min A B))), .val (.int (-1 : Int32)), .val (.int (-1 : Int32)), .val (.int (Int32.ofNat (min A B))), .val (.int (Int32.ofNat (max A B))), .val (.int (-1 : Int32)), .unset, .unset]) rfl kk) ?_
        show Go _ _ _ _ _ _ _ T30 (mkF m 145 #[.val (.int i0), .val (.int i1), .val (.int i2), .val (.int i3), .val (.int (Int32.ofNat W)), .val (.int (Int32.ofNat H)), .val (.int (Int32.ofNat (W + H))), .val (.int (Int32.ofNat A)), .val (.int (Int32.ofNat B)), .val (.ref b1), .val (.int (Int32.ofNat (min A B))), .val (.int (-1 : Int32)), .val (.int (-1 : Int32)), .val (.int (Int32.ofNat (min A B))), .val (.int (Int32.ofNat (max A B))), .val (.int (-1 : Int32)), .unset, .unset] [])
        refine Go.step (fun tt kk => XS.lconst X30.here hx rfl (hb hby at_145) kk) ?_
        show Go _ _ _ _ _ _ _ T30 (mkF m 146 #[.val (.int i0), .val (.int i1), .val (.int i2), .val (.int i3), .val (.int (Int32.ofNat W)), .val (.int (Int32.ofNat H)), .val (.int (Int32.ofNat (W + H))), .val (.int (Int32.ofNat A)), .val (.int (Int32.ofNat B)), .val (.ref b1), .val (.int (Int32.ofNat (min A B))), .val (.int (-1 : Int32)), .val (.int (-1 : Int32)), .val (.int (Int32.ofNat (min A B))), .val (.int (Int32.ofNat (max A B))), .val (.int (-1 : Int32)), .unset, .unset] [(.long (1 : Int64))])
        refine Go.step (fun tt kk => XS.iload X30.here hx rfl (hb hby at_146) rfl kk) ?_
        show Go _ _ _ _ _ _ _ T30 (mkF m 148 #[.val (.int i0), .val (.int i1), .val (.int i2), .val (.int i3), .val (.int (Int32.ofNat W)), .val (.int (Int32.ofNat H)), .val (.int (Int32.ofNat (W + H))), .val (.int (Int32.ofNat A)), .val (.int (Int32.ofNat B)), .val (.ref b1), .val (.int (Int32.ofNat (min A B))), .val (.int (-1 : Int32)), .val (.int (-1 : Int32)), .val (.int (Int32.ofNat (min A B))), .val (.int (Int32.ofNat (max A B))), .val (.int (-1 : Int32)), .unset, .unset] [(.int (Int32.ofNat A)), (.long (1 : Int64))])
        refine Go.step (fun tt kk => XS.lshl X30.here hx rfl (hb hby at_148) rfl kk) ?_
        show Go _ _ _ _ _ _ _ T30 (mkF m 149 #[.val (.int i0), .val (.int i1), .val (.int i2), .val (.int i3), .val (.int (Int32.ofNat W)), .val (.int (Int32.ofNat H)), .val (.int (Int32.ofNat (W + H))), .val (.int (Int32.ofNat A)), .val (.int (Int32.ofNat B)), .val (.ref b1), .val (.int (Int32.ofNat (min A B))), .val (.int (-1 : Int32)), .val (.int (-1 : Int32)), .val (.int (Int32.ofNat (min A B))), .val (.int (Int32.ofNat (max A B))), .val (.int (-1 : Int32)), .unset, .unset] [(.long ((1 : Int64) <<< ((Int32.ofNat A) &&& 0x3f).toInt64))])
        refine Go.step (fun tt kk => XS.lconst X30.here hx rfl (hb hby at_149) kk) ?_
        show Go _ _ _ _ _ _ _ T30 (mkF m 150 #[.val (.int i0), .val (.int i1), .val (.int i2), .val (.int i3), .val (.int (Int32.ofNat W)), .val (.int (Int32.ofNat H)), .val (.int (Int32.ofNat (W + H))), .val (.int (Int32.ofNat A)), .val (.int (Int32.ofNat B)), .val (.ref b1), .val (.int (Int32.ofNat (min A B))), .val (.int (-1 : Int32)), .val (.int (-1 : Int32)), .val (.int (Int32.ofNat (min A B))), .val (.int (Int32.ofNat (max A B))), .val (.int (-1 : Int32)), .unset, .unset] [(.long (1 : Int64)), (.long ((1 : Int64) <<< ((Int32.ofNat A) &&& 0x3f).toInt64))])
        refine Go.step (fun tt kk => XS.iload X30.here hx rfl (hb hby at_150) rfl kk) ?_
        show Go _ _ _ _ _ _ _ T30 (mkF m 152 #[.val (.int i0), .val (.int i1), .val (.int i2), .val (.int i3), .val (.int (Int32.ofNat W)), .val (.int (Int32.ofNat H)), .val (.int (Int32.ofNat (W + H))), .val (.int (Int32.ofNat A)), .val (.int (Int32.ofNat B)), .val (.ref b1), .val (.int (Int32.ofNat (min A B))), .val (.int (-1 : Int32)), .val (.int (-1 : Int32)), .val (.int (Int32.ofNat (min A B))), .val (.int (Int32.ofNat (max A B))), .val (.int (-1 : Int32)), .unset, .unset] [(.int (Int32.ofNat B)), (.long (1 : Int64)), (.long ((1 : Int64) <<< ((Int32.ofNat A) &&& 0x3f).toInt64))])
        refine Go.step (fun tt kk => XS.lshl X30.here hx rfl (hb hby at_152) rfl kk) ?_
        show Go _ _ _ _ _ _ _ T30 (mkF m 153 #[.val (.int i0), .val (.int i1), .val (.int i2), .val (.int i3), .val (.int (Int32.ofNat W)), .val (.int (Int32.ofNat H)), .val (.int (Int32.ofNat (W + H))), .val (.int (Int32.ofNat A)), .val (.int (Int32.ofNat B)), .val (.ref b1), .val (.int (Int32.ofNat (min A B))), .val (.int (-1 : Int32)), .val (.int (-1 : Int32)), .val (.int (Int32.ofNat (min A B))), .val (.int (Int32.ofNat (max A B))), .val (.int (-1 : Int32)), .unset, .unset] [(.long ((1 : Int64) <<< ((Int32.ofNat B) &&& 0x3f).toInt64)), (.long ((1 : Int64) <<< ((Int32.ofNat A) &&& 0x3f).toInt64))])
        refine Go.step (fun tt kk => XS.lor X30.here hx rfl (hb hby at_153) rfl kk) ?_
        show Go _ _ _ _ _ _ _ T30 (mkF m 154 #[.val (.int i0), .val (.int i1), .val (.int i2), .val (.int i3), .val (.int (Int32.ofNat W)), .val (.int (Int32.ofNat H)), .val (.int (Int32.ofNat (W + H))), .val (.int (Int32.ofNat A)), .val (.int (Int32.ofNat B)), .val (.ref b1), .val (.int (Int32.ofNat (min A B))), .val (.int (-1 : Int32)), .val (.int (-1 : Int32)), .val (.int (Int32.ofNat (min A B))), .val (.int (Int32.ofNat (max A B))), .val (.int (-1 : Int32)), .unset, .unset] [(.long (((1 : Int64) <<< ((Int32.ofNat A) &&& 0x3f).toInt64) ||| ((1 : Int64) <<< ((Int32.ofNat B) &&& 0x3f).toInt64)))])
        refine Go.step (fun tt kk => XS.lstore X30.here hx rfl (hb hby at_154) rfl (l' := #[.val (.int i0), .val (.int i1), .val (.int i2), .val (.int i3), .val (.int (Int32.ofNat W)), .val (.int (Int32.ofNat H)), .val (.int (Int32.ofNat (W + H))), .val (.int (Int32.ofNat A)), .val (.int (Int32.ofNat B)), .val (.ref b1), .val (.int (Int32.ofNat (min A B))), .val (.int (-1 : Int32)), .val (.int (-1 : Int32)), .val (.int (Int32.ofNat (min A B))), .val (.int (Int32.ofNat (max A B))), .val (.int (-1 : Int32)), .val (.long (((1 : Int64) <<< ((Int32.ofNat A) &&& 0x3f).toInt64) ||| ((1 : Int64) <<< ((Int32.ofNat B) &&& 0x3f).toInt64))), .second]) rfl kk) ?_
        show Go _ _ _ _ _ _ _ T30 (mkF m 156 #[.val (.int i0), .val (.int i1), .val (.int i2), .val (.int i3), .val (.int (Int32.ofNat W)), .val (.int (Int32.ofNat H)), .val (.int (Int32.ofNat (W + H))), .val (.int (Int32.ofNat A)), .val (.int (Int32.ofNat B)), .val (.ref b1), .val (.int (Int32.ofNat (min A B))), .val (.int (-1 : Int32)), .val (.int (-1 : Int32)), .val (.int (Int32.ofNat (min A B))), .val (.int (Int32.ofNat (max A B))), .val (.int (-1 : Int32)), .val (.long (((1 : Int64) <<< ((Int32.ofNat A) &&& 0x3f).toInt64) ||| ((1 : Int64) <<< ((Int32.ofNat B) &&& 0x3f).toInt64))), .second] [])
        refine Go.step (fun tt kk => XS.iload X30.here hx rfl (hb hby at_156) rfl kk) ?_
        show Go _ _ _ _ _ _ _ T30 (mkF m 158 #[.val (.int i0), .val (.int i1), .val (.int i2), .val (.int i3), .val (.int (Int32.ofNat W)), .val (.int (Int32.ofNat H)), .val (.int (Int32.ofNat (W + H))), .val (.int (Int32.ofNat A)), .val (.int (Int32.ofNat B)), .val (.ref b1), .val (.int (Int32.ofNat (min A B))), .val (.int (-1 : Int32)), .val (.int (-1 : Int32)), .val (.int (Int32.ofNat (min A B))), .val (.int (Int32.ofNat (max A B))), .val (.int (-1 : Int32)), .val (.long (((1 : Int64) <<< ((Int32.ofNat A) &&& 0x3f).toInt64) ||| ((1 : Int64) <<< ((Int32.ofNat B) &&& 0x3f).toInt64))), .second] [(.int (Int32.ofNat (min A B)))])
        refine Go.step (fun tt kk => XS.iload X30.here hx rfl (hb hby at_158) rfl kk) ?_
        show Go _ _ _ _ _ _ _ T30 (mkF m 160 #[.val (.int i0), .val (.int i1), .val (.int i2), .val (.int i3), .val (.int (Int32.ofNat W)), .val (.int (Int32.ofNat H)), .val (.int (Int32.ofNat (W + H))), .val (.int (Int32.ofNat A)), .val (.int (Int32.ofNat B)), .val (.ref b1), .val (.int (Int32.ofNat (min A B))), .val (.int (-1 : Int32)), .val (.int (-1 : Int32)), .val (.int (Int32.ofNat (min A B))), .val (.int (Int32.ofNat (max A B))), .val (.int (-1 : Int32)), .val (.long (((1 : Int64) <<< ((Int32.ofNat A) &&& 0x3f).toInt64) ||| ((1 : Int64) <<< ((Int32.ofNat B) &&& 0x3f).toInt64))), .second] [(.int (Int32.ofNat (min A B))), (.int (Int32.ofNat (min A B)))])
        refine Go.step (fun tt kk => XS.icmpNo X30.here hx rfl (hb hby at_160) rfl (teq ((own_eq _ _ (by omega) (by omega)).mpr (by omega))).2 kk) ?_
        show Go _ _ _ _ _ _ _ T30 (mkF m 163 #[.val (.int i0), .val (.int i1), .val (.int i2), .val (.int i3), .val (.int (Int32.ofNat W)), .val (.int (Int32.ofNat H)), .val (.int (Int32.ofNat (W + H))), .val (.int (Int32.ofNat A)), .val (.int (Int32.ofNat B)), .val (.ref b1), .val (.int (Int32.ofNat (min A B))), .val (.int (-1 : Int32)), .val (.int (-1 : Int32)), .val (.int (Int32.ofNat (min A B))), .val (.int (Int32.ofNat (max A B))), .val (.int (-1 : Int32)), .val (.long (((1 : Int64) <<< ((Int32.ofNat A) &&& 0x3f).toInt64) ||| ((1 : Int64) <<< ((Int32.ofNat B) &&& 0x3f).toInt64))), .second] [])
        refine Go.step (fun tt kk => XS.iload X30.here hx rfl (hb hby at_163) rfl kk) ?_
        show Go _ _ _ _ _ _ _ T30 (mkF m 165 #[.val (.int i0), .val (.int i1), .val (.int i2), .val (.int i3), .val (.int (Int32.ofNat W)), .val (.int (Int32.ofNat H)), .val (.int (Int32.ofNat (W + H))), .val (.int (Int32.ofNat A)), .val (.int (Int32.ofNat B)), .val (.ref b1), .val (.int (Int32.ofNat (min A B))), .val (.int (-1 : Int32)), .val (.int (-1 : Int32)), .val (.int (Int32.ofNat (min A B))), .val (.int (Int32.ofNat (max A B))), .val (.int (-1 : Int32)), .val (.long (((1 : Int64) <<< ((Int32.ofNat A) &&& 0x3f).toInt64) ||| ((1 : Int64) <<< ((Int32.ofNat B) &&& 0x3f).toInt64))), .second] [(.int (-1 : Int32))])
        refine Go.step (fun tt kk => XS.iload X30.here hx rfl (hb hby at_165) rfl kk) ?_
        show Go _ _ _ _ _ _ _ T30 (mkF m 167 #[.val (.int i0), .val (.int i1), .val (.int i2), .val (.int i3), .val (.int (Int32.ofNat W)), .val (.int (Int32.ofNat H)), .val (.int (Int32.ofNat (W + H))), .val (.int (Int32.ofNat A)), .val (.int (Int32.ofNat B)), .val (.ref b1), .val (.int (Int32.ofNat (min A B))), .val (.int (-1 : Int32)), .val (.int (-1 : Int32)), .val (.int (Int32.ofNat (min A B))), .val (.int (Int32.ofNat (max A B))), .val (.int (-1 : Int32)), .val (.long (((1 : Int64) <<< ((Int32.ofNat A) &&& 0x3f).toInt64) ||| ((1 : Int64) <<< ((Int32.ofNat B) &&& 0x3f).toInt64))), .second] [(.int (-1 : Int32)), (.int (-1 : Int32))])
        refine Go.step (fun tt kk => XS.icmpNo X30.here hx rfl (hb hby at_167) rfl (teq rfl).2 kk) ?_
        show Go _ _ _ _ _ _ _ T30 (mkF m 170 #[.val (.int i0), .val (.int i1), .val (.int i2), .val (.int i3), .val (.int (Int32.ofNat W)), .val (.int (Int32.ofNat H)), .val (.int (Int32.ofNat (W + H))), .val (.int (Int32.ofNat A)), .val (.int (Int32.ofNat B)), .val (.ref b1), .val (.int (Int32.ofNat (min A B))), .val (.int (-1 : Int32)), .val (.int (-1 : Int32)), .val (.int (Int32.ofNat (min A B))), .val (.int (Int32.ofNat (max A B))), .val (.int (-1 : Int32)), .val (.long (((1 : Int64) <<< ((Int32.ofNat A) &&& 0x3f).toInt64) ||| ((1 : Int64) <<< ((Int32.ofNat B) &&& 0x3f).toInt64))), .second] [])
        refine Go.step (fun tt kk => XS.iload X30.here hx rfl (hb hby at_170) rfl kk) ?_
        show Go _ _ _ _ _ _ _ T30 (mkF m 172 #[.val (.int i0), .val (.int i1), .val (.int i2), .val (.int i3), .val (.int (Int32.ofNat W)), .val (.int (Int32.ofNat H)), .val (.int (Int32.ofNat (W + H))), .val (.int (Int32.ofNat A)), .val (.int (Int32.ofNat B)), .val (.ref b1), .val (.int (Int32.ofNat (min A B))), .val (.int (-1 : Int32)), .val (.int (-1 : Int32)), .val (.int (Int32.ofNat (min A B))), .val (.int (Int32.ofNat (max A B))), .val (.int (-1 : Int32)), .val (.long (((1 : Int64) <<< ((Int32.ofNat A) &&& 0x3f).toInt64) ||| ((1 : Int64) <<< ((Int32.ofNat B) &&& 0x3f).toInt64))), .second] [(.int (-1 : Int32))])
        refine Go.step (fun tt kk => XS.iconst X30.here hx rfl (hb hby at_172) kk) ?_
        show Go _ _ _ _ _ _ _ T30 (mkF m 173 #[.val (.int i0), .val (.int i1), .val (.int i2), .val (.int i3), .val (.int (Int32.ofNat W)), .val (.int (Int32.ofNat H)), .val (.int (Int32.ofNat (W + H))), .val (.int (Int32.ofNat A)), .val (.int (Int32.ofNat B)), .val (.ref b1), .val (.int (Int32.ofNat (min A B))), .val (.int (-1 : Int32)), .val (.int (-1 : Int32)), .val (.int (Int32.ofNat (min A B))), .val (.int (Int32.ofNat (max A B))), .val (.int (-1 : Int32)), .val (.long (((1 : Int64) <<< ((Int32.ofNat A) &&& 0x3f).toInt64) ||| ((1 : Int64) <<< ((Int32.ofNat B) &&& 0x3f).toInt64))), .second] [(.int (-1 : Int32)), (.int (-1 : Int32))])
        refine Go.step (fun tt kk => XS.icmpNo X30.here hx rfl (hb hby at_173) rfl (teq rfl).2 kk) ?_
        show Go _ _ _ _ _ _ _ T30 (mkF m 176 #[.val (.int i0), .val (.int i1), .val (.int i2), .val (.int i3), .val (.int (Int32.ofNat W)), .val (.int (Int32.ofNat H)), .val (.int (Int32.ofNat (W + H))), .val (.int (Int32.ofNat A)), .val (.int (Int32.ofNat B)), .val (.ref b1), .val (.int (Int32.ofNat (min A B))), .val (.int (-1 : Int32)), .val (.int (-1 : Int32)), .val (.int (Int32.ofNat (min A B))), .val (.int (Int32.ofNat (max A B))), .val (.int (-1 : Int32)), .val (.long (((1 : Int64) <<< ((Int32.ofNat A) &&& 0x3f).toInt64) ||| ((1 : Int64) <<< ((Int32.ofNat B) &&& 0x3f).toInt64))), .second] [])
        refine Go.step (fun tt kk => XS.aload X30.here hx rfl (hb hby at_176) rfl rfl kk) ?_
        show Go _ _ _ _ _ _ _ T30 (mkF m 178 #[.val (.int i0), .val (.int i1), .val (.int i2), .val (.int i3), .val (.int (Int32.ofNat W)), .val (.int (Int32.ofNat H)), .val (.int (Int32.ofNat (W + H))), .val (.int (Int32.ofNat A)), .val (.int (Int32.ofNat B)), .val (.ref b1), .val (.int (Int32.ofNat (min A B))), .val (.int (-1 : Int32)), .val (.int (-1 : Int32)), .val (.int (Int32.ofNat (min A B))), .val (.int (Int32.ofNat (max A B))), .val (.int (-1 : Int32)), .val (.long (((1 : Int64) <<< ((Int32.ofNat A) &&& 0x3f).toInt64) ||| ((1 : Int64) <<< ((Int32.ofNat B) &&& 0x3f).toInt64))), .second] [(.ref b1)])
        obtain ⟨v31, T31, L31, X31, q31, st31⟩ := c_virtUp X30 hx hZ hown (y' := (⟨"com/example/gridwright/gridwright/engine/SmallDraft", "taken", "()J"⟩ : MethodName)) (y := (⟨"com/example/gridwright/gridwright/engine/Draft", "taken", "()J"⟩ : MethodName)) (C := "com/example/gridwright/gridwright/engine/SmallDraft") (owner := "com/example/gridwright/gridwright/engine/Draft") (hw _ (List.mem_of_getElem? (i := 121) rfl)) (hw _ (List.mem_of_getElem? (i := 122) rfl)) (hw _ (List.mem_of_getElem? (i := 123) rfl)) (hw _ (List.mem_of_getElem? (i := 125) rfl)) (hw _ (List.mem_of_getElem? (i := 124) rfl)) (hw _ (List.mem_of_getElem? (i := 10) rfl)) (hw _ (List.mem_of_getElem? (i := 126) rfl)) (by decide) (a := b1) (argsL := []) (rest := []) (rmTk l Z a0 hw [] b1 ((0 : Int64) ||| (sh (Int32.ofNat (min A B)))) h28 n0 Z28 F28q2) e30 E28q pd_7 rfl (by rw [hml]; rfl) (W := 0) (by show 2 * 0 + _ ≤ _; exact Nat.le_of_eq rfl) (by decide) (by decide) (by decide) (by decide) (hb hby at_178) (Ls := #[.val (.int i0), .val (.int i1), .val (.int i2), .val (.int i3), .val (.int (Int32.ofNat W)), .val (.int (Int32.ofNat H)), .val (.int (Int32.ofNat (W + H))), .val (.int (Int32.ofNat A)), .val (.int (Int32.ofNat B)), .val (.ref b1), .val (.int (Int32.ofNat (min A B))), .val (.int (-1 : Int32)), .val (.int (-1 : Int32)), .val (.int (Int32.ofNat (min A B))), .val (.int (Int32.ofNat (max A B))), .val (.int (-1 : Int32)), .val (.long (((1 : Int64) <<< ((Int32.ofNat A) &&& 0x3f).toInt64) ||| ((1 : Int64) <<< ((Int32.ofNat B) &&& 0x3f).toInt64))), .second])
        obtain ⟨rfl, rfl, e31⟩ := q31
        have N31 := Fr.app N30 (Fr.nil n0)
        refine Go.step (st31) ?_
        show Go _ _ _ _ _ _ _ T31 (mkF m 181 #[.val (.int i0), .val (.int i1), .val (.int i2), .val (.int i3), .val (.int (Int32.ofNat W)), .val (.int (Int32.ofNat H)), .val (.int (Int32.ofNat (W + H))), .val (.int (Int32.ofNat A)), .val (.int (Int32.ofNat B)), .val (.ref b1), .val (.int (Int32.ofNat (min A B))), .val (.int (-1 : Int32)), .val (.int (-1 : Int32)), .val (.int (Int32.ofNat (min A B))), .val (.int (Int32.ofNat (max A B))), .val (.int (-1 : Int32)), .val (.long (((1 : Int64) <<< ((Int32.ofNat A) &&& 0x3f).toInt64) ||| ((1 : Int64) <<< ((Int32.ofNat B) &&& 0x3f).toInt64))), .second] [(.long ((0 : Int64) ||| (sh (Int32.ofNat (min A B)))))])
        refine Go.step (fun tt kk => XS.lload X31.here hx rfl (hb hby at_181) rfl kk) ?_
        show Go _ _ _ _ _ _ _ T31 (mkF m 183 #[.val (.int i0), .val (.int i1), .val (.int i2), .val (.int i3), .val (.int (Int32.ofNat W)), .val (.int (Int32.ofNat H)), .val (.int (Int32.ofNat (W + H))), .val (.int (Int32.ofNat A)), .val (.int (Int32.ofNat B)), .val (.ref b1), .val (.int (Int32.ofNat (min A B))), .val (.int (-1 : Int32)), .val (.int (-1 : Int32)), .val (.int (Int32.ofNat (min A B))), .val (.int (Int32.ofNat (max A B))), .val (.int (-1 : Int32)), .val (.long (((1 : Int64) <<< ((Int32.ofNat A) &&& 0x3f).toInt64) ||| ((1 : Int64) <<< ((Int32.ofNat B) &&& 0x3f).toInt64))), .second] [(.long (((1 : Int64) <<< ((Int32.ofNat A) &&& 0x3f).toInt64) ||| ((1 : Int64) <<< ((Int32.ofNat B) &&& 0x3f).toInt64))), (.long ((0 : Int64) ||| (sh (Int32.ofNat (min A B)))))])
        refine Go.step (fun tt kk => XS.lcmp X31.here hx rfl (hb hby at_183) rfl kk) ?_
        show Go _ _ _ _ _ _ _ T31 (mkF m 184 #[.val (.int i0), .val (.int i1), .val (.int i2), .val (.int i3), .val (.int (Int32.ofNat W)), .val (.int (Int32.ofNat H)), .val (.int (Int32.ofNat (W + H))), .val (.int (Int32.ofNat A)), .val (.int (Int32.ofNat B)), .val (.ref b1), .val (.int (Int32.ofNat (min A B))), .val (.int (-1 : Int32)), .val (.int (-1 : Int32)), .val (.int (Int32.ofNat (min A B))), .val (.int (Int32.ofNat (max A B))), .val (.int (-1 : Int32)), .val (.long (((1 : Int64) <<< ((Int32.ofNat A) &&& 0x3f).toInt64) ||| ((1 : Int64) <<< ((Int32.ofNat B) &&& 0x3f).toInt64))), .second] [(.int (lcmpW ((0 : Int64) ||| (sh (Int32.ofNat (min A B)))) (((1 : Int64) <<< ((Int32.ofNat A) &&& 0x3f).toInt64) ||| ((1 : Int64) <<< ((Int32.ofNat B) &&& 0x3f).toInt64))))])
        refine Go.step (fun tt kk => XS.ifNo X31.here hx rfl (hb hby at_184) rfl ((if0 _ _).trans (teq ((lw_eq _ _).mpr (by subst hAB; rw [own_or0, Nat.min_self, Int64.or_self]))).2) kk) ?_
        show Go _ _ _ _ _ _ _ T31 (mkF m 187 #[.val (.int i0), .val (.int i1), .val (.int i2), .val (.int i3), .val (.int (Int32.ofNat W)), .val (.int (Int32.ofNat H)), .val (.int (Int32.ofNat (W + H))), .val (.int (Int32.ofNat A)), .val (.int (Int32.ofNat B)), .val (.ref b1), .val (.int (Int32.ofNat (min A B))), .val (.int (-1 : Int32)), .val (.int (-1 : Int32)), .val (.int (Int32.ofNat (min A B))), .val (.int (Int32.ofNat (max A B))), .val (.int (-1 : Int32)), .val (.long (((1 : Int64) <<< ((Int32.ofNat A) &&& 0x3f).toInt64) ||| ((1 : Int64) <<< ((Int32.ofNat B) &&& 0x3f).toInt64))), .second] [])
        refine Go.step (fun tt kk => XS.iconst X31.here hx rfl (hb hby at_187) kk) ?_
        show Go _ _ _ _ _ _ _ T31 (mkF m 188 #[.val (.int i0), .val (.int i1), .val (.int i2), .val (.int i3), .val (.int (Int32.ofNat W)), .val (.int (Int32.ofNat H)), .val (.int (Int32.ofNat (W + H))), .val (.int (Int32.ofNat A)), .val (.int (Int32.ofNat B)), .val (.ref b1), .val (.int (Int32.ofNat (min A B))), .val (.int (-1 : Int32)), .val (.int (-1 : Int32)), .val (.int (Int32.ofNat (min A B))), .val (.int (Int32.ofNat (max A B))), .val (.int (-1 : Int32)), .val (.long (((1 : Int64) <<< ((Int32.ofNat A) &&& 0x3f).toInt64) ||| ((1 : Int64) <<< ((Int32.ofNat B) &&& 0x3f).toInt64))), .second] [(.int (1 : Int32))])
        refine Go.step (fun tt kk => XS.goto X31.here hx rfl (pc0 := 188) (pc' := 192) rfl (hb hby at_188) (by decide) (by decide) kk) ?_
        show Go _ _ _ _ _ _ _ T31 (mkF m 192 #[.val (.int i0), .val (.int i1), .val (.int i2), .val (.int i3), .val (.int (Int32.ofNat W)), .val (.int (Int32.ofNat H)), .val (.int (Int32.ofNat (W + H))), .val (.int (Int32.ofNat A)), .val (.int (Int32.ofNat B)), .val (.ref b1), .val (.int (Int32.ofNat (min A B))), .val (.int (-1 : Int32)), .val (.int (-1 : Int32)), .val (.int (Int32.ofNat (min A B))), .val (.int (Int32.ofNat (max A B))), .val (.int (-1 : Int32)), .val (.long (((1 : Int64) <<< ((Int32.ofNat A) &&& 0x3f).toInt64) ||| ((1 : Int64) <<< ((Int32.ofNat B) &&& 0x3f).toInt64))), .second] [(.int (1 : Int32))])
        refine go_retN X31 hx (t := .boolean) hret (by simp) hlk (hb hby at_192) (w := (1 : Int32)) rfl ?_ (by decide) (by decide)
        try rw [e31]
        exact ⟨rfl, N31⟩
      · show Go _ _ _ _ _ _ _ T5 (mkF m 70 #[.val (.int i0), .val (.int i1), .val (.int i2), .val (.int i3), .val (.int (Int32.ofNat W)), .val (.int (Int32.ofNat H)), .val (.int (Int32.ofNat (W + H))), .val (.int (Int32.ofNat A)), .val (.int (Int32.ofNat B)), .val (.ref b1), .unset, .unset, .unset, .unset, .unset, .unset, .unset, .unset] [])
        refine Go.step (fun tt kk => XS.aload X5.here hx rfl (hb hby at_70) rfl rfl kk) ?_
        show Go _ _ _ _ _ _ _ T5 (mkF m 72 #[.val (.int i0), .val (.int i1), .val (.int i2), .val (.int i3), .val (.int (Int32.ofNat W)), .val (.int (Int32.ofNat H)), .val (.int (Int32.ofNat (W + H))), .val (.int (Int32.ofNat A)), .val (.int (Int32.ofNat B)), .val (.ref b1), .unset, .unset, .unset, .unset, .unset, .unset, .unset, .unset] [(.ref b1)])
        refine Go.step (fun tt kk => XS.iload X5.here hx rfl (hb hby at_72) rfl kk) ?_
        show Go _ _ _ _ _ _ _ T5 (mkF m 74 #[.val (.int i0), .val (.int i1), .val (.int i2), .val (.int i3), .val (.int (Int32.ofNat W)), .val (.int (Int32.ofNat H)), .val (.int (Int32.ofNat (W + H))), .val (.int (Int32.ofNat A)), .val (.int (Int32.ofNat B)), .val (.ref b1), .unset, .unset, .unset, .unset, .unset, .unset, .unset, .unset] [(.int (Int32.ofNat A)), (.ref b1)])
        obtain ⟨v32, T32, L32, X32, q32, st32⟩ := c_virt X5 hx hZ hown (y' := (⟨"com/example/gridwright/gridwright/engine/SmallDraft", "await", "(I)V"⟩ : MethodName)) (y := (⟨"com/example/gridwright/gridwright/engine/SmallDraft", "await", "(I)V"⟩ : MethodName)) (C := "com/example/gridwright/gridwright/engine/SmallDraft") (hw _ (List.mem_of_getElem? (i := 94) rfl)) (hw _ (List.mem_of_getElem? (i := 95) rfl)) (notFace_of_selects (args := #[]) (mvT hZ (hw _ (List.mem_of_getElem? (i := 97) rfl)))) (hw _ (List.mem_of_getElem? (i := 97) rfl)) (hw _ (List.mem_of_getElem? (i := 96) rfl)) (hw _ (List.mem_of_getElem? (i := 3) rfl)) (hw _ (List.mem_of_getElem? (i := 98) rfl)) (by decide) (a := b1) (argsL := [(.int (Int32.ofNat A))]) (rest := []) (rmAr l Z a0 hw [] b1 A W H (0 : Int64) (0 : Int32) (.ref b3) x2_0 x2_1 (0 : Int64) (0 : Int64) (1 : Int32) h5 n0 Z5 E5q F5q0 F5q1 F5q2 F5q3 F5q4 F5q5 F5q6 F5q7 F5q8 F5q9 F5q10 F5q11 gn_b1 (by omega) (by omega) hA0) e5 E5q pd_6 rfl (by rw [hml]; rfl) (W := 0) (by show 2 * 0 + _ ≤ _; exact Nat.le_of_eq rfl) (by decide) (by decide) (by decide) (by decide) (hb hby at_74) (Ls := #[.val (.int i0), .val (.int i1), .val (.int i2), .val (.int i3), .val (.int (Int32.ofNat W)), .val (.int (Int32.ofNat H)), .val (.int (Int32.ofNat (W + H))), .val (.int (Int32.ofNat A)), .val (.int (Int32.ofNat B)), .val (.ref b1), .unset, .unset, .unset, .unset, .unset, .unset, .unset, .unset])
        generalize e32 : T32.heap = h32 at q32
        obtain ⟨rfl, N32q, K32q, E32q, F32q0, F32q1, F32q2, F32q3, F32q4, F32q5, F32q6, F32q7, F32q8, F32q9, F32q10, F32q11⟩ := q32
        have N32 := Fr.app N5 N32q
        have Z32 : n0 ≤ h32.size := Nat.le_trans Z5 K32q.1
        refine Go.step (st32) ?_
        show Go _ _ _ _ _ _ _ T32 (mkF m 77 #[.val (.int i0), .val (.int i1), .val (.int i2), .val (.int i3), .val (.int (Int32.ofNat W)), .val (.int (Int32.ofNat H)), .val (.int (Int32.ofNat (W + H))), .val (.int (Int32.ofNat A)), .val (.int (Int32.ofNat B)), .val (.ref b1), .unset, .unset, .unset, .unset, .unset, .unset, .unset, .unset] [])
        refine Go.step (fun tt kk => XS.aload X32.here hx rfl (hb hby at_77) rfl rfl kk) ?_
        show Go _ _ _ _ _ _ _ T32 (mkF m 79 #[.val (.int i0), .val (.int i1), .val (.int i2), .val (.int i3), .val (.int (Int32.ofNat W)), .val (.int (Int32.ofNat H)), .val (.int (Int32.ofNat (W + H))), .val (.int (Int32.ofNat A)), .val (.int (Int32.ofNat B)), .val (.ref b1), .unset, .unset, .unset, .unset, .unset, .unset, .unset, .unset] [(.ref b1)])
        refine Go.step (fun tt kk => XS.iload X32.here hx rfl (hb hby at_79) rfl kk) ?_
        show Go _ _ _ _ _ _ _ T32 (mkF m 81 #[.val (.int i0), .val (.int i1), .val (.int i2), .val (.int i3), .val (.int (Int32.ofNat W)), .val (.int (Int32.ofNat H)), .val (.int (Int32.ofNat (W + H))), .val (.int (Int32.ofNat A)), .val (.int (Int32.ofNat B)), .val (.ref b1), .unset, .unset, .unset, .unset, .unset, .unset, .unset, .unset] [(.int (Int32.ofNat B)), (.ref b1)])
        obtain ⟨v33, T33, L33, X33, q33, st33⟩ := c_virt X32 hx hZ hown (y' := (⟨"com/example/gridwright/gridwright/engine/SmallDraft", "await", "(I)V"⟩ : MethodName)) (y := (⟨"com/example/gridwright/gridwright/engine/SmallDraft", "await", "(I)V"⟩ : MethodName)) (C := "com/example/gridwright/gridwright/engine/SmallDraft") (hw _ (List.mem_of_getElem? (i := 94) rfl)) (hw _ (List.mem_of_getElem? (i := 95) rfl)) (notFace_of_selects (args := #[]) (mvT hZ (hw _ (List.mem_of_getElem? (i := 97) rfl)))) (hw _ (List.mem_of_getElem? (i := 97) rfl)) (hw _ (List.mem_of_getElem? (i := 96) rfl)) (hw _ (List.mem_of_getElem? (i := 3) rfl)) (hw _ (List.mem_of_getElem? (i := 98) rfl)) (by decide) (a := b1) (argsL := [(.int (Int32.ofNat B))]) (rest := []) (rmAr l Z a0 hw [] b1 B W H (0 : Int64) (0 : Int32) (.ref b3) x2_0 x2_1 ((0 : Int64) ||| (sh (Int32.ofNat A))) (0 : Int64) (1 : Int32) h32 n0 Z32 E32q F32q0 F32q1 F32q2 F32q3 F32q4 F32q5 F32q6 F32q7 F32q8 F32q9 F32q10 F32q11 gn_b1 (by omega) (by omega) hB0) e32 E32q pd_6 rfl (by rw [hml]; rfl) (W := 0) (by show 2 * 0 + _ ≤ _; exact Nat.le_of_eq rfl) (by decide) (by decide) (by decide) (by decide) (hb hby at_81) (Ls := #[.val (.int i0), .val (.int i1), .val (.int i2), .val (.int i3), .val (.int (Int32.ofNat W)), .val (.int (Int32.ofNat H)), .val (.int (Int32.ofNat (W + H))), .val (.int (Int32.ofNat A)), .val (.int (Int32.ofNat B)), .val (.ref b1), .unset, .unset, .unset, .unset, .unset, .unset, .unset, .unset])
        generalize e33 : T33.heap = h33 at q33
        obtain ⟨rfl, N33q, K33q, E33q, F33q0, F33q1, F33q2, F33q3, F33q4, F33q5, F33q6, F33q7, F33q8, F33q9, F33q10, F33q11⟩ := q33
        have N33 := Fr.app N32 N33q
        have Z33 : n0 ≤ h33.size := Nat.le_trans Z32 K33q.1
        refine Go.step (st33) ?_
        show Go _ _ _ _ _ _ _ T33 (mkF m 84 #[.val (.int i0), .val (.int i1), .val (.int i2), .val (.int i3), .val (.int (Int32.ofNat W)), .val (.int (Int32.ofNat H)), .val (.int (Int32.ofNat (W + H))), .val (.int (Int32.ofNat A)), .val (.int (Int32.ofNat B)), .val (.ref b1), .unset, .unset, .unset, .unset, .unset, .unset, .unset, .unset] [])
        refine Go.step (fun tt kk => XS.aload X33.here hx rfl (hb hby at_84) rfl rfl kk) ?_
        show Go _ _ _ _ _ _ _ T33 (mkF m 86 #[.val (.int i0), .val (.int i1), .val (.int i2), .val (.int i3), .val (.int (Int32.ofNat W)), .val (.int (Int32.ofNat H)), .val (.int (Int32.ofNat (W + H))), .val (.int (Int32.ofNat A)), .val (.int (Int32.ofNat B)), .val (.ref b1), .unset, .unset, .unset, .unset, .unset, .unset, .unset, .unset] [(.ref b1)])
        refine Go.step (fun tt kk => XS.iload X33.here hx rfl (hb hby at_86) rfl kk) ?_
        show Go _ _ _ _ _ _ _ T33 (mkF m 88 #[.val (.int i0), .val (.int i1), .val (.int i2), .val (.int i3), .val (.int (Int32.ofNat W)), .val (.int (Int32.ofNat H)), .val (.int (Int32.ofNat (W + H))), .val (.int (Int32.ofNat A)), .val (.int (Int32.ofNat B)), .val (.ref b1), .unset, .unset, .unset, .unset, .unset, .unset, .unset, .unset] [(.int (Int32.ofNat A)), (.ref b1)])
        obtain ⟨v34, T34, L34, X34, q34, st34⟩ := c_virt X33 hx hZ hown (y' := (⟨"com/example/gridwright/gridwright/engine/SmallDraft", "await", "(I)V"⟩ : MethodName)) (y := (⟨"com/example/gridwright/gridwright/engine/SmallDraft", "await", "(I)V"⟩ : MethodName)) (C := "com/example/gridwright/gridwright/engine/SmallDraft") (hw _ (List.mem_of_getElem? (i := 94) rfl)) (hw _ (List.mem_of_getElem? (i := 95) rfl)) (notFace_of_selects (args := #[]) (mvT hZ (hw _ (List.mem_of_getElem? (i := 97) rfl)))) (hw _ (List.mem_of_getElem? (i := 97) rfl)) (hw _ (List.mem_of_getElem? (i := 96) rfl)) (hw _ (List.mem_of_getElem? (i := 3) rfl)) (hw _ (List.mem_of_getElem? (i := 98) rfl)) (by decide) (a := b1) (argsL := [(.int (Int32.ofNat A))]) (rest := []) (rmAr l Z a0 hw [] b1 A W H (0 : Int64) (0 : Int32) (.ref b3) x2_0 x2_1 (((0 : Int64) ||| (sh (Int32.ofNat A))) ||| (sh (Int32.ofNat B))) (0 : Int64) (1 : Int32) h33 n0 Z33 E33q F33q0 F33q1 F33q2 F33q3 F33q4 F33q5 F33q6 F33q7 F33q8 F33q9 F33q10 F33q11 gn_b1 (by omega) (by omega) hA0) e33 E33q pd_6 rfl (by rw [hml]; rfl) (W := 0) (by show 2 * 0 + _ ≤ _; exact Nat.le_of_eq rfl) (by decide) (by decide) (by decide) (by decide) (hb hby at_88) (Ls := #[.val (.int i0), .val (.int i1), .val (.int i2), .val (.int i3), .val (.int (Int32.ofNat W)), .val (.int (Int32.ofNat H)), .val (.int (Int32.ofNat (W + H))), .val (.int (Int32.ofNat A)), .val (.int (Int32.ofNat B)), .val (.ref b1), .unset, .unset, .unset, .unset, .unset, .unset, .unset, .unset])
        generalize e34 : T34.heap = h34 at q34
        obtain ⟨rfl, N34q, K34q, E34q, F34q0, F34q1, F34q2, F34q3, F34q4, F34q5, F34q6, F34q7, F34q8, F34q9, F34q10, F34q11⟩ := q34
        have N34 := Fr.app N33 N34q
        have Z34 : n0 ≤ h34.size := Nat.le_trans Z33 K34q.1
        refine Go.step (st34) ?_
        show Go _ _ _ _ _ _ _ T34 (mkF m 91 #[.val (.int i0), .val (.int i1), .val (.int i2), .val (.int i3), .val (.int (Int32.ofNat W)), .val (.int (Int32.ofNat H)), .val (.int (Int32.ofNat (W + H))), .val (.int (Int32.ofNat A)), .val (.int (Int32.ofNat B)), .val (.ref b1), .unset, .unset, .unset, .unset, .unset, .unset, .unset, .unset] [])
        have f35 : Fld Z h34 b1 "com/example/gridwright/gridwright/engine/SmallDraft" "waitingRows" "J" (.long ((sh (Int32.ofNat A)) ||| (sh (Int32.ofNat B)))) := by
          have q := F34q9
          rwa [own_or0, own_3] at q
        have f36 : Fld Z h34 b1 "com/example/gridwright/gridwright/engine/SmallDraft" "rows" "Z" (.int (bi (true = true))) := by
          have q := F34q11
          exact q
        obtain ⟨t1, t2, t3⟩ := own_bits1 ⟨A, by omega⟩ ⟨B, by omega⟩
        obtain ⟨u1, u2, u3⟩ := own_one ⟨max A B, by omega⟩
        dsimp only at t1 t2 t3 u1 u2 u3
        refine Go.step (fun tt kk => XS.aload X34.here hx rfl (hb hby at_91) rfl rfl kk) ?_
        show Go _ _ _ _ _ _ _ T34 (mkF m 93 #[.val (.int i0), .val (.int i1), .val (.int i2), .val (.int i3), .val (.int (Int32.ofNat W)), .val (.int (Int32.ofNat H)), .val (.int (Int32.ofNat (W + H))), .val (.int (Int32.ofNat A)), .val (.int (Int32.ofNat B)), .val (.ref b1), .unset, .unset, .unset, .unset, .unset, .unset, .unset, .unset] [(.ref b1)])
        obtain ⟨v37, T37, L37, X37, q37, st37⟩ := c_virt X34 hx hZ hown (y' := (⟨"com/example/gridwright/gridwright/engine/SmallDraft", "next", "()I"⟩ : MethodName)) (y := (⟨"com/example/gridwright/gridwright/engine/SmallDraft", "next", "()I"⟩ : MethodName)) (C := "com/example/gridwright/gridwright/engine/SmallDraft") (hw _ (List.mem_of_getElem? (i := 101) rfl)) (hw _ (List.mem_of_getElem? (i := 102) rfl)) (notFace_of_selects (args := #[]) (mvT hZ (hw _ (List.mem_of_getElem? (i := 104) rfl)))) (hw _ (List.mem_of_getElem? (i := 104) rfl)) (hw _ (List.mem_of_getElem? (i := 103) rfl)) (hw _ (List.mem_of_getElem? (i := 3) rfl)) (hw _ (List.mem_of_getElem? (i := 105) rfl)) (by decide) (a := b1) (argsL := []) (rest := []) (rmNr l Z a0 hw [] b1 W H (0 : Int64) (0 : Int32) (.ref b3) x2_0 x2_1 ((sh (Int32.ofNat A)) ||| (sh (Int32.ofNat B))) (0 : Int64) true h34 n0 Z34 E34q F34q0 F34q1 F34q2 F34q3 F34q4 F34q5 F34q6 F34q7 F34q8 f35 F34q10 f36 gn_b1 t2 (Or.inl rfl)) e34 E34q pd_3 rfl (by rw [hml]; rfl) (W := 0) (by show 2 * 0 + _ ≤ _; exact Nat.le_of_eq rfl) (by decide) (by decide) (by decide) (by decide) (hb hby at_93) (Ls := #[.val (.int i0), .val (.int i1), .val (.int i2), .val (.int i3), .val (.int (Int32.ofNat W)), .val (.int (Int32.ofNat H)), .val (.int (Int32.ofNat (W + H))), .val (.int (Int32.ofNat A)), .val (.int (Int32.ofNat B)), .val (.ref b1), .unset, .unset, .unset, .unset, .unset, .unset, .unset, .unset])
        generalize e37 : T37.heap = h37 at q37
        obtain ⟨rfl, N37q, K37q, E37q, F37q0, F37q1, F37q2, F37q3, F37q4, F37q5, F37q6, F37q7, F37q8, F37q9, F37q10, F37q11⟩ := q37
        have N37 := Fr.app N34 N37q
        have Z37 : n0 ≤ h37.size := Nat.le_trans Z34 K37q.1
        refine Go.step (st37) ?_
        show Go _ _ _ _ _ _ _ T37 (mkF m 96 #[.val (.int i0), .val (.int i1), .val (.int i2), .val (.int i3), .val (.int (Int32.ofNat W)), .val (.int (Int32.ofNat H)), .val (.int (Int32.ofNat (W + H))), .val (.int (Int32.ofNat A)), .val (.int (Int32.ofNat B)), .val (.ref b1), .unset, .unset, .unset, .unset, .unset, .unset, .unset, .unset] [(.int (ntz ((sh (Int32.ofNat A)) ||| (sh (Int32.ofNat B)))))])
        refine Go.step (fun tt kk => XS.istore X37.here hx rfl (hb hby at_96) rfl (l' := #[.val (.int i0), .val (.int i1), .val (.int i2), .val (.int i3), .val (.int (Int32.ofNat W)), .val (.int (Int32.ofNat H)), .val (.int (Int32.ofNat (W + H))), .val (.int (Int32.ofNat A)), .val (.int (Int32.ofNat B)), .val (.ref b1), .val (.int (ntz ((sh (Int32.ofNat A)) ||| (sh (Int32.ofNat B))))), .unset, .unset, .unset, .unset, .unset, .unset, .unset]) rfl kk) ?_
        show Go _ _ _ _ _ _ _ T37 (mkF m 98 #[.val (.int i0), .val (.int i1), .val (.int i2), .val (.int i3), .val (.int (Int32.ofNat W)), .val (.int (Int32.ofNat H)), .val (.int (Int32.ofNat (W + H))), .val (.int (Int32.ofNat A)), .val (.int (Int32.ofNat B)), .val (.ref b1), .val (.int (ntz ((sh (Int32.ofNat A)) ||| (sh (Int32.ofNat B))))), .unset, .unset, .unset, .unset, .unset, .unset, .unset] [])
        rw [t1]
        show Go _ _ _ _ _ _ _ T37 (mkF m 98 #[.val (.int i0), .val (.int i1), .val (.int i2), .val (.int i3), .val (.int (Int32.ofNat W)), .val (.int (Int32.ofNat H)), .val (.int (Int32.ofNat (W + H))), .val (.int (Int32.ofNat A)), .val (.int (Int32.ofNat B)), .val (.ref b1), .val (.int (Int32.ofNat (min A B))), .unset, .unset, .unset, .unset, .unset, .unset, .unset] [])
        have f38 : Fld Z h37 b1 "com/example/gridwright/gridwright/engine/SmallDraft" "waitingRows" "J" (.long (sh (Int32.ofNat (max A B)))) := by
          have q := F37q9
          rwa [t3, if_neg hAB] at q
        have f39 : Fld Z h37 b1 "com/example/gridwright/gridwright/engine/Draft" "taken" "J" (.long ((0 : Int64) ||| (sh (Int32.ofNat (min A B))))) := by
          have q := F37q2
          rwa [t1] at q
        refine Go.step (fun tt kk => XS.aload X37.here hx rfl (hb hby at_98) rfl rfl kk) ?_
        show Go _ _ _ _ _ _ _ T37 (mkF m 100 #[.val (.int i0), .val (.int i1), .val (.int i2), .val (.int i3), .val (.int (Int32.ofNat W)), .val (.int (Int32.ofNat H)), .val (.int (Int32.ofNat (W + H))), .val (.int (Int32.ofNat A)), .val (.int (Int32.ofNat B)), .val (.ref b1), .val (.int (Int32.ofNat (min A B))), .unset, .unset, .unset, .unset, .unset, .unset, .unset] [(.ref b1)])
        obtain ⟨v40, T40, L40, X40, q40, st40⟩ := c_virt X37 hx hZ hown (y' := (⟨"com/example/gridwright/gridwright/engine/SmallDraft", "next", "()I"⟩ : MethodName)) (y := (⟨"com/example/gridwright/gridwright/engine/SmallDraft", "next", "()I"⟩ : MethodName)) (C := "com/example/gridwright/gridwright/engine/SmallDraft") (hw _ (List.mem_of_getElem? (i := 101) rfl)) (hw _ (List.mem_of_getElem? (i := 102) rfl)) (notFace_of_selects (args := #[]) (mvT hZ (hw _ (List.mem_of_getElem? (i := 104) rfl)))) (hw _ (List.mem_of_getElem? (i := 104) rfl)) (hw _ (List.mem_of_getElem? (i := 103) rfl)) (hw _ (List.mem_of_getElem? (i := 3) rfl)) (hw _ (List.mem_of_getElem? (i := 105) rfl)) (by decide) (a := b1) (argsL := []) (rest := []) (rmNr l Z a0 hw [] b1 W H ((0 : Int64) ||| (sh (Int32.ofNat (min A B)))) (0 : Int32) (.ref b3) x2_0 x2_1 (sh (Int32.ofNat (max A B))) (0 : Int64) true h37 n0 Z37 E37q F37q0 F37q1 f39 F37q3 F37q4 F37q5 F37q6 F37q7 F37q8 f38 F37q10 F37q11 gn_b1 u2 (Or.inl rfl)) e37 E37q pd_3 rfl (by rw [hml]; rfl) (W := 0) (by show 2 * 0 + _ ≤ _; exact Nat.le_of_eq rfl) (by decide) (by decide) (by decide) (by decide) (hb hby at_100) (Ls := #[.val (.int i0), .val (.int i1), .val (.int i2), .val (.int i3), .val (.int (Int32.ofNat W)), .val (.int (Int32.ofNat H)), .val (.int (Int32.ofNat (W + H))), .val (.int (Int32.ofNat A)), .val (.int (Int32.ofNat B)), .val (.ref b1), .val (.int (Int32.ofNat (min A B))), .unset, .unset, .unset, .unset, .unset, .unset, .unset])
        generalize e40 : T40.heap = h40 at q40
        obtain ⟨rfl, N40q, K40q, E40q, F40q0, F40q1, F40q2, F40q3, F40q4, F40q5, F40q6, F40q7, F40q8, F40q9, F40q10, F40q11⟩ := q40
        have N40 := Fr.app N37 N40q
        have Z40 : n0 ≤ h40.size := Nat.le_trans Z37 K40q.1
        refine Go.step (st40) ?_
        show Go _ _ _ _ _ _ _ T40 (mkF m 103 #[.val (.int i0), .val (.int i1), .val (.int i2), .val (.int i3), .val (.int (Int32.ofNat W)), .val (.int (Int32.ofNat H)), .val (.int (Int32.ofNat (W + H))), .val (.int (Int32.ofNat A)), .val (.int (Int32.ofNat B)), .val (.ref b1), .val (.int (Int32.ofNat (min A B))), .unset, .unset, .unset, .unset, .unset, .unset, .unset] [(.int (ntz (sh (Int32.ofNat (max A B)))))])
        refine Go.step (fun tt kk => XS.istore X40.here hx rfl (hb hby at_103) rfl (l' := #[.val (.int i0), .val (.int i1), .val (.int i2), .val (.int i3), .val (.int (Int32.ofNat W)), .val (.int (Int32.ofNat H)), .val (.int (Int32.ofNat (W + H))), .val (.int (Int32.ofNat A)), .val (.int (Int32.ofNat B)), .val (.ref b1), .val (.int (Int32.ofNat (min A B))), .val (.int (ntz (sh (Int32.ofNat (max A B))))), .unset, .unset, .unset, .unset, .unset, .unset]) rfl kk) ?_
        show Go _ _ _ _ _ _ _ T40 (mkF m 105 #[.val (.int i0), .val (.int i1), .val (.int i2), .val (.int i3), .val (.int (Int32.ofNat W)), .val (.int (Int32.ofNat H)), .val (.int (Int32.ofNat (W + H))), .val (.int (Int32.ofNat A)), .val (.int (Int32.ofNat B)), .val (.ref b1), .val (.int (Int32.ofNat (min A B))), .val (.int (ntz (sh (Int32.ofNat (max A B))))), .unset, .unset, .unset, .unset, .unset, .unset] [])
        rw [u1]
        show Go _ _ _ _ _ _ _ T40 (mkF m 105 #[.val (.int i0), .val (.int i1), .val (.int i2), .val (.int i3), .val (.int (Int32.ofNat W)), .val (.int (Int32.ofNat H)), .val (.int (Int32.ofNat (W + H))), .val (.int (Int32.ofNat A)), .val (.int (Int32.ofNat B)), .val (.ref b1), .val (.int (Int32.ofNat (min A B))), .val (.int (Int32.ofNat (max A B))), .unset, .unset, .unset, .unset, .unset, .unset] [])
        have f41 : Fld Z h40 b1 "com/example/gridwright/gridwright/engine/SmallDraft" "waitingRows" "J" (.long (0 : Int64)) := by
          have q := F40q9
          rwa [u3] at q
        have f42 : Fld Z h40 b1 "com/example/gridwright/gridwright/engine/Draft" "taken" "J" (.long (((0 : Int64) ||| (sh (Int32.ofNat (min A B)))) ||| (sh (Int32.ofNat (max A B))))) := by
          have q := F40q2
          rwa [u1] at q
        refine Go.step (fun tt kk => XS.aload X40.here hx rfl (hb hby at_105) rfl rfl kk) ?_
        show Go _ _ _ _ _ _ _ T40 (mkF m 107 #[.val (.int i0), .val (.int i1), .val (.int i2), .val (.int i3), .val (.int (Int32.ofNat W)), .val (.int (Int32.ofNat H)), .val (.int (Int32.ofNat (W + H))), .val (.int (Int32.ofNat A)), .val (.int (Int32.ofNat B)), .val (.ref b1), .val (.int (Int32.ofNat (min A B))), .val (.int (Int32.ofNat (max A B))), .unset, .unset, .unset, .unset, .unset, .unset] [(.ref b1)])
        obtain ⟨v43, T43, L43, X43, q43, st43⟩ := c_virt X40 hx hZ hown (y' := (⟨"com/example/gridwright/gridwright/engine/SmallDraft", "next", "()I"⟩ : MethodName)) (y := (⟨"com/example/gridwright/gridwright/engine/SmallDraft", "next", "()I"⟩ : MethodName)) (C := "com/example/gridwright/gridwright/engine/SmallDraft") (hw _ (List.mem_of_getElem? (i := 101) rfl)) (hw _ (List.mem_of_getElem? (i := 102) rfl)) (notFace_of_selects (args := #[]) (mvT hZ (hw _ (List.mem_of_getElem? (i := 104) rfl)))) (hw _ (List.mem_of_getElem? (i := 104) rfl)) (hw _ (List.mem_of_getElem? (i := 103) rfl)) (hw _ (List.mem_of_getElem? (i := 3) rfl)) (hw _ (List.mem_of_getElem? (i := 105) rfl)) (by decide) (a := b1) (argsL := []) (rest := []) (rmNn l Z a0 hw [] b1 W H (((0 : Int64) ||| (sh (Int32.ofNat (min A B)))) ||| (sh (Int32.ofNat (max A B)))) (0 : Int32) (.ref b3) x2_0 x2_1 (0 : Int64) (0 : Int64) true h40 n0 Z40 E40q F40q0 F40q1 f42 F40q3 F40q4 F40q5 F40q6 F40q7 F40q8 f41 F40q10 F40q11 gn_b1 rfl rfl) e40 E40q pd_3 rfl (by rw [hml]; rfl) (W := 0) (by show 2 * 0 + _ ≤ _; exact Nat.le_of_eq rfl) (by decide) (by decide) (by decide) (by decide) (hb hby at_107) (Ls := #[.val (.int i0), .val (.int i1), .val (.int i2), .val (.int i3), .val (.int (Int32.ofNat W)), .val (.int (Int32.ofNat H)), .val (.int (Int32.ofNat (W + H))), .val (.int (Int32.ofNat A)), .val (.int (Int32.ofNat B)), .val (.ref b1), .val (.int (Int32.ofNat (min A B))), .val (.int (Int32.ofNat (max A B))), .unset, .unset, .unset, .unset, .unset, .unset])
        generalize e43 : T43.heap = h43 at q43
        obtain ⟨rfl, N43q, K43q, E43q, F43q0, F43q1, F43q2, F43q3, F43q4, F43q5, F43q6, F43q7, F43q8, F43q9, F43q10, F43q11⟩ := q43
        have N43 := Fr.app N40 N43q
        have Z43 : n0 ≤ h43.size := Nat.le_trans Z40 K43q.1
        refine Go.step (st43) ?_
        show Go _ _ _ _ _ _ _ T43 (mkF m 110 #[.val (.int i0), .val (.int i1), .val (.int i2), .val (.int i3), .val (.int (Int32.ofNat W)), .val (.int (Int32.ofNat H)), .val (.int (Int32.ofNat (W + H))), .val (.int (Int32.ofNat A)), .val (.int (Int32.ofNat B)), .val (.ref b1), .val (.int (Int32.ofNat (min A B))), .val (.int (Int32.ofNat (max A B))), .unset, .unset, .unset, .unset, .unset, .unset] [(.int (-1 : Int32))])
        refine Go.step (fun tt kk => XS.istore X43.here hx rfl (hb hby at_110) rfl (l' := #[.val (.int i0), .val (.int i1), .val (.int i2), .val (.int i3), .val (.int (Int32.ofNat W)), .val (.int (Int32.ofNat H)), .val (.int (Int32.ofNat (W + H))), .val (.int (Int32.ofNat A)), .val (.int (Int32.ofNat B)), .val (.ref b1), .val (.int (Int32.ofNat (min A B))), .val (.int (Int32.ofNat (max A B))), .val (.int (-1 : Int32)), .unset, .unset, .unset, .unset, .unset]) rfl kk) ?_
        show Go _ _ _ _ _ _ _ T43 (mkF m 112 #[.val (.int i0), .val (.int i1), .val (.int i2), .val (.int i3), .val (.int (Int32.ofNat W)), .val (.int (Int32.ofNat H)), .val (.int (Int32.ofNat (W + H))), .val (.int (Int32.ofNat A)), .val (.int (Int32.ofNat B)), .val (.ref b1), .val (.int (Int32.ofNat (min A B))), .val (.int (Int32.ofNat (max A B))), .val (.int (-1 : Int32)), .unset, .unset, .unset, .unset, .unset] [])
        refine Go.step (fun tt kk => XS.iload X43.here hx rfl (hb hby at_112) rfl kk) ?_
        show Go _ _ _ _ _ _ _ T43 (mkF m 114 #[.val (.int i0), .val (.int i1), .val (.int i2), .val (.int i3), .val (.int (Int32.ofNat W)), .val (.int (Int32.ofNat H)), .val (.int (Int32.ofNat (W + H))), .val (.int (Int32.ofNat A)), .val (.int (Int32.ofNat B)), .val (.ref b1), .val (.int (Int32.ofNat (min A B))), .val (.int (Int32.ofNat (max A B))), .val (.int (-1 : Int32)), .unset, .unset, .unset, .unset, .unset] [(.int (Int32.ofNat A))])
        refine Go.step (fun tt kk => XS.iload X43.here hx rfl (hb hby at_114) rfl kk) ?_
        show Go _ _ _ _ _ _ _ T43 (mkF m 116 #[.val (.int i0), .val (.int i1), .val (.int i2), .val (.int i3), .val (.int (Int32.ofNat W)), .val (.int (Int32.ofNat H)), .val (.int (Int32.ofNat (W + H))), .val (.int (Int32.ofNat A)), .val (.int (Int32.ofNat B)), .val (.ref b1), .val (.int (Int32.ofNat (min A B))), .val (.int (Int32.ofNat (max A B))), .val (.int (-1 : Int32)), .unset, .unset, .unset, .unset, .unset] [(.int (Int32.ofNat B)), (.int (Int32.ofNat A))])
        obtain ⟨v44, T44, L44, X44, q44, st44⟩ := c_static X43 hx hZ hown (y := (⟨"java/lang/Math", "min", "(II)I"⟩ : MethodName)) (hw _ (List.mem_of_getElem? (i := 117) rfl)) (hw _ (List.mem_of_getElem? (i := 118) rfl)) (hw _ (List.mem_of_getElem? (i := 37) rfl)) (hw _ (List.mem_of_getElem? (i := 119) rfl)) (by decide) (argsL := [(.int (Int32.ofNat A)), (.int (Int32.ofNat B))]) (rest := []) (rmmn l Z a0 hw [] (Int32.ofNat A) (Int32.ofNat B) h43 n0 Z43) e43 pd_0 rfl (by rw [hml]; rfl) (W := 0) (by show 2 * 0 + _ ≤ _; exact Nat.le_of_eq rfl) (by decide) (by decide) (by decide) (by decide) (hb hby at_116) (Ls := #[.val (.int i0), .val (.int i1), .val (.int i2), .val (.int i3), .val (.int (Int32.ofNat W)), .val (.int (Int32.ofNat H)), .val (.int (Int32.ofNat (W + H))), .val (.int (Int32.ofNat A)), .val (.int (Int32.ofNat B)), .val (.ref b1), .val (.int (Int32.ofNat (min A B))), .val (.int (Int32.ofNat (max A B))), .val (.int (-1 : Int32)), .unset, .unset, .unset, .unset, .unset])
        obtain ⟨rfl, rfl, e44⟩ := q44
        have N44 := Fr.app N43 (Fr.nil n0)
        refine Go.step (st44) ?_
        show Go _ _ _ _ _ _ _ T44 (mkF m 119 #[.val (.int i0), .val (.int i1), .val (.int i2), .val (.int i3), .val (.int (Int32.ofNat W)), .val (.int (Int32.ofNat H)), .val (.int (Int32.ofNat (W + H))), .val (.int (Int32.ofNat A)), .val (.int (Int32.ofNat B)), .val (.ref b1), .val (.int (Int32.ofNat (min A B))), .val (.int (Int32.ofNat (max A B))), .val (.int (-1 : Int32)), .unset, .unset, .unset, .unset, .unset] [(.int (mn (Int32.ofNat A) (Int32.ofNat B)))])
        rw [own_min _ _ (by omega) (by omega)]
        show Go _ _ _ _ _ _ _ T44 (mkF m 119 #[.val (.int i0), .val (.int i1), .val (.int i2), .val (.int i3), .val (.int (Int32.ofNat W)), .val (.int (Int32.ofNat H)), .val (.int (Int32.ofNat (W + H))), .val (.int (Int32.ofNat A)), .val (.int (Int32.ofNat B)), .val (.ref b1), .val (.int (Int32.ofNat (min A B))), .val (.int (Int32.ofNat (max A B))), .val (.int (-1 : Int32)), .unset, .unset, .unset, .unset, .unset] [(.int (Int32.ofNat (min A B)))])
        refine Go.step (fun tt kk => XS.istore X44.here hx rfl (hb hby at_119) rfl (l' := #[.val (.int i0), .val (.int i1), .val (.int i2), .val (.int i3), .val (.int (Int32.ofNat W)), .val (.int (Int32.ofNat H)), .val (.int (Int32.ofNat (W + H))), .val (.int (Int32.ofNat A)), .val (.int (Int32.ofNat B)), .val (.ref b1), .val (.int (Int32.ofNat (min A B))), .val (.int (Int32.ofNat (max A B))), .val (.int (-1 : Int32)), .val (.int (Int32.ofNat (min A B))), .unset, .unset, .unset, .unset]) rfl kk) ?_
        show Go _ _ _ _ _ _ _ T44 (mkF m 121 #[.val (.int i0), .val (.int i1), .val (.int i2), .val (.int i3), .val (.int (Int32.ofNat W)), .val (.int (Int32.ofNat H)), .val (.int (Int32.ofNat (W + H))), .val (.int (Int32.ofNat A)), .val (.int (Int32.ofNat B)), .val (.ref b1), .val (.int (Int32.ofNat (min A B))), .val (.int (Int32.ofNat (max A B))), .val (.int (-1 : Int32)), .val (.int (Int32.ofNat (min A B))), .unset, .unset, .unset, .unset] [])
        refine Go.step (fun tt kk => XS.iload X44.here hx rfl (hb hby at_121) rfl kk) ?_
        show Go _ _ _ _ _ _ _ T44 (mkF m 123 #[.val (.int i0), .val (.int i1), .val (.int i2), .val (.int i3), .val (.int (Int32.ofNat W)), .val (.int (Int32.ofNat H)), .val (.int (Int32.ofNat (W + H))), .val (.int (Int32.ofNat A)), .val (.int (Int32.ofNat B)), .val (.ref b1), .val (.int (Int32.ofNat (min A B))), .val (.int (Int32.ofNat (max A B))), .val (.int (-1 : Int32)), .val (.int (Int32.ofNat (min A B))), .unset, .unset, .unset, .unset] [(.int (Int32.ofNat A))])
        refine Go.step (fun tt kk => XS.iload X44.here hx rfl (hb hby at_123) rfl kk) ?_
        show Go _ _ _ _ _ _ _ T44 (mkF m 125 #[.val (.int i0), .val (.int i1), .val (.int i2), .val (.int i3), .val (.int (Int32.ofNat W)), .val (.int (Int32.ofNat H)), .val (.int (Int32.ofNat (W + H))), .val (.int (Int32.ofNat A)), .val (.int (Int32.ofNat B)), .val (.ref b1), .val (.int (Int32.ofNat (min A B))), .val (.int (Int32.ofNat (max A B))), .val (.int (-1 : Int32)), .val (.int (Int32.ofNat (min A B))), .unset, .unset, .unset, .unset] [(.int (Int32.ofNat B)), (.int (Int32.ofNat A))])
        obtain ⟨v45, T45, L45, X45, q45, st45⟩ := c_static X44 hx hZ hown (y := (⟨"java/lang/Math", "max", "(II)I"⟩ : MethodName)) (hw _ (List.mem_of_getElem? (i := 120) rfl)) (hw _ (List.mem_of_getElem? (i := 46) rfl)) (hw _ (List.mem_of_getElem? (i := 37) rfl)) (hw _ (List.mem_of_getElem? (i := 47) rfl)) (by decide) (argsL := [(.int (Int32.ofNat A)), (.int (Int32.ofNat B))]) (rest := []) (rmmx l Z a0 hw [] (Int32.ofNat A) (Int32.ofNat B) h43 n0 Z43) e44 pd_0 rfl (by rw [hml]; rfl) (W := 0) (by show 2 * 0 + _ ≤ _; exact Nat.le_of_eq rfl) (by decide) (by decide) (by decide) (by decide) (hb hby at_125) (Ls := #[.val (.int i0), .val (.int i1), .val (.int i2), .val (.int i3), .val (.int (Int32.ofNat W)), .val (.int (Int32.ofNat H)), .val (.int (Int32.ofNat (W + H))), .val (.int (Int32.ofNat A)), .val (.int (Int32.ofNat B)), .val (.ref b1), .val (.int (Int32.ofNat (min A B))), .val (.int (Int32.ofNat (max A B))), .val (.int (-1 : Int32)), .val (.int (Int32.ofNat (min A B))), .unset, .unset, .unset, .unset])
        obtain ⟨rfl, rfl, e45⟩ := q45
        have N45 := Fr.app N44 (Fr.nil n0)
        refine Go.step (st45) ?_
        show Go _ _ _ _ _ _ _ T45 (mkF m 128 #[.val (.int i0), .val (.int i1), .val (.int i2), .val (.int i3), .val (.int (Int32.ofNat W)), .val (.int (Int32.ofNat H)), .val (.int (Int32.ofNat (W + H))), .val (.int (Int32.ofNat A)), .val (.int (Int32.ofNat B)), .val (.ref b1), .val (.int (Int32.ofNat (min A B))), .val (.int (Int32.ofNat (max A B))), .val (.int (-1 : Int32)), .val (.int (Int32.ofNat (min A B))), .unset, .unset, .unset, .unset] [(.int (mx (Int32.ofNat A) (Int32.ofNat B)))])
        rw [own_max _ _ (by omega) (by omega)]
        show Go _ _ _ _ _ _ _ T45 (mkF m 128 #[.val (.int i0), .val (.int i1), .val (.int i2), .val (.int i3), .val (.int (Int32.ofNat W)), .val (.int (Int32.ofNat H)), .val (.int (Int32.ofNat (W + H))), .val (.int (Int32.ofNat A)), .val (.int (Int32.ofNat B)), .val (.ref b1), .val (.int (Int32.ofNat (min A B))), .val (.int (Int32.ofNat (max A B))), .val (.int (-1 : Int32)), .val (.int (Int32.ofNat (min A B))), .unset, .unset, .unset, .unset] [(.int (Int32.ofNat (max A B)))])
        refine Go.step (fun tt kk => XS.istore X45.here hx rfl (hb hby at_128) rfl (l' := #[.val (.int i0), .val (.int i1), .val (.int i2), .val (.int i3), .val (.int (Int32.ofNat W)), .val (.int (Int32.ofNat H)), .val (.int (Int32.ofNat (W + H))), .val (.int (Int32.ofNat A)), .val (.int (Int32.ofNat B)), .val (.ref b1), .val (.int (Int32.ofNat (min A B))), .val (.int (Int32.ofNat (max A B))), .val (.int (-1 : Int32)), .val (.int (Int32.ofNat (min A B))), .val (.int (Int32.ofNat (max A B))), .unset, .unset, .unset]) rfl kk) ?_
        show Go _ _ _ _ _ _ _ T45 (mkF m 130 #[.val (.int i0), .val (.int i1), .val (.int i2), .val (.int i3), .val (.int (Int32.ofNat W)), .val (.int (Int32.ofNat H)), .val (.int (Int32.ofNat (W + H))), .val (.int (Int32.ofNat A)), .val (.int (Int32.ofNat B)), .val (.ref b1), .val (.int (Int32.ofNat (min A B))), .val (.int (Int32.ofNat (max A B))), .val (.int (-1 : Int32)), .val (.int (Int32.ofNat (min A B))), .val (.int (Int32.ofNat (max A B))), .unset, .unset, .unset] [])
        refine Go.step (fun tt kk => XS.iload X45.here hx rfl (hb hby at_130) rfl kk) ?_
        show Go _ _ _ _ _ _ _ T45 (mkF m 132 #[.val (.int i0), .val (.int i1), .val (.int i2), .val (.int i3), .val (.int (Int32.ofNat W)), .val (.int (Int32.ofNat H)), .val (.int (Int32.ofNat (W + H))), .val (.int (Int32.ofNat A)), .val (.int (Int32.ofNat B)), .val (.ref b1), .val (.int (Int32.ofNat (min A B))), .val (.int (Int32.ofNat (max A B))), .val (.int (-1 : Int32)), .val (.int (Int32.ofNat (min A B))), .val (.int (Int32.ofNat (max A B))), .unset, .unset, .unset] [(.int (Int32.ofNat (max A B)))])
        refine Go.step (fun tt kk => XS.iload X45.here hx rfl (hb hby at_132) rfl kk) ?_
        show Go _ _ _ _ _ _ _ T45 (mkF m 134 #[.val (.int i0), .val (.int i1), .val (.int i2), .val (.int i3), .val (.int (Int32.ofNat W)), .val (.int (Int32.ofNat H)), .val (.int (Int32.ofNat (W + H))), .val (.int (Int32.ofNat A)), .val (.int (Int32.ofNat B)), .val (.ref b1), .val (.int (Int32.ofNat (min A B))), .val (.int (Int32.ofNat (max A B))), .val (.int (-1 : Int32)), .val (.int (Int32.ofNat (min A B))), .val (.int (Int32.ofNat (max A B))), .unset, .unset, .unset] [(.int (Int32.ofNat (min A B))), (.int (Int32.ofNat (max A B)))])
        refine Go.step (fun tt kk => XS.icmpNo X45.here hx rfl (hb hby at_134) rfl (feq (mt (own_eq _ _ (by omega) (by omega)).mp (by omega))).1 kk) ?_
        show Go _ _ _ _ _ _ _ T45 (mkF m 137 #[.val (.int i0), .val (.int i1), .val (.int i2), .val (.int i3), .val (.int (Int32.ofNat W)), .val (.int (Int32.ofNat H)), .val (.int (Int32.ofNat (W + H))), .val (.int (Int32.ofNat A)), .val (.int (Int32.ofNat B)), .val (.ref b1), .val (.int (Int32.ofNat (min A B))), .val (.int (Int32.ofNat (max A B))), .val (.int (-1 : Int32)), .val (.int (Int32.ofNat (min A B))), .val (.int (Int32.ofNat (max A B))), .unset, .unset, .unset] [])
        refine Go.step (fun tt kk => XS.iload X45.here hx rfl (hb hby at_137) rfl kk) ?_
        show Go _ _ _ _ _ _ _ T45 (mkF m 139 #[.val (.int i0), .val (.int i1), .val (.int i2), .val (.int i3), .val (.int (Int32.ofNat W)), .val (.int (Int32.ofNat H)), .val (.int (Int32.ofNat (W + H))), .val (.int (Int32.ofNat A)), .val (.int (Int32.ofNat B)), .val (.ref b1), .val (.int (Int32.ofNat (min A B))), .val (.int (Int32.ofNat (max A B))), .val (.int (-1 : Int32)), .val (.int (Int32.ofNat (min A B))), .val (.int (Int32.ofNat (max A B))), .unset, .unset, .unset] [(.int (Int32.ofNat (max A B)))])
        refine Go.step (fun tt kk => XS.goto X45.here hx rfl (pc0 := 139) (pc' := 143) rfl (hb hby at_139) (by decide) (by decide) kk) ?_
        show Go _ _ _ _ _ _ _ T45 (mkF m 143 #[.val (.int i0), .val (.int i1), .val (.int i2), .val (.int i3), .val (.int (Int32.ofNat W)), .val (.int (Int32.ofNat H)), .val (.int (Int32.ofNat (W + H))), .val (.int (Int32.ofNat A)), .val (.int (Int32.ofNat B)), .val (.ref b1), .val (.int (Int32.ofNat (min A B))), .val (.int (Int32.ofNat (max A B))), .val (.int (-1 : Int32)), .val (.int (Int32.ofNat (min A B))), .val (.int (Int32.ofNat (max A B))), .unset, .unset, .unset] [(.int (Int32.ofNat (max A B)))])
        refine Go.step (fun tt kk => XS.istore X45.here hx rfl (hb hby at_143) rfl (l' := #[.val (.int i0), .val (.int i1), .val (.int i2), .val (.int i3), .val (.int (Int32.ofNat W)), .val (.int (Int32.ofNat H)), .val (.int (Int32.ofNat (W + H))), .val (.int (Int32.ofNat A)), .val (.int (Int32.ofNat B)), .val (.ref b1), .val (.int (Int32.ofNat (min A B))), .val (.int (Int32.ofNat (max A B))), .val (.int (-1 : Int32)), .val (.int (Int32.ofNat (min A B))), .val (.int (Int32.ofNat (max A B))), .val (.int (Int32.ofNat (max A B))), .unset, .unset]) rfl kk) ?_
        show Go _ _ _ _ _ _ _ T45 (mkF m 145 #[.val (.int i0), .val (.int i1), .val (.int i2), .val (.int i3), .val (.int (Int32.ofNat W)), .val (.int (Int32.ofNat H)), .val (.int (Int32.ofNat (W + H))), .val (.int (Int32.ofNat A)), .val (.int (Int32.ofNat B)), .val (.ref b1), .val (.int (Int32.ofNat (min A B))), .val (.int (Int32.ofNat (max A B))), .val (.int (-1 : Int32)), .val (.int (Int32.ofNat (min A B))), .val (.int (Int32.ofNat (max A B))), .val (.int (Int32.ofNat (max A B))), .unset, .unset] [])
        refine Go.step (fun tt kk => XS.lconst X45.here hx rfl (hb hby at_145) kk) ?_
        show Go _ _ _ _ _ _ _ T45 (mkF m 146 #[.val (.int i0), .val (.int i1), .val (.int i2), .val (.int i3), .val (.int (Int32.ofNat W)), .val (.int (Int32.ofNat H)), .val (.int (Int32.ofNat (W + H))), .val (.int (Int32.ofNat A)), .val (.int (Int32.ofNat B)), .val (.ref b1), .val (.int (Int32.ofNat (min A B))), .val (.int (Int32.ofNat (max A B))), .val (.int (-1 : Int32)), .val (.int (Int32.ofNat (min A B))), .val (.int (Int32.ofNat (max A B))), .val (.int (Int32.ofNat (max A B))), .unset, .unset] [(.long (1 : Int64))])
        refine Go.step (fun tt kk => XS.iload X45.here hx rfl (hb hby at_146) rfl kk) ?_
        show Go _ _ _ _ _ _ _ T45 (mkF m 148 #[.val (.int i0), .val (.int i1), .val (.int i2), .val (.int i3), .val (.int (Int32.ofNat W)), .val (.int (Int32.ofNat H)), .val (.int (Int32.ofNat (W + H))), .val (.int (Int32.ofNat A)), .val (.int (Int32.ofNat B)), .val (.ref b1), .val (.int (Int32.ofNat (min A B))), .val (.int (Int32.ofNat (max A B))), .val (.int (-1 : Int32)), .val (.int (Int32.ofNat (min A B))), .val (.int (Int32.ofNat (max A B))), .val (.int (Int32.ofNat (max A B))), .unset, .unset] [(.int (Int32.ofNat A)), (.long (1 : Int64))])
        refine Go.step (fun tt kk => XS.lshl X45.here hx rfl (hb hby at_148) rfl kk) ?_
        show Go _ _ _ _ _ _ _ T45 (mkF m 149 #[.val (.int i0), .val (.int i1), .val (.int i2), .val (.int i3), .val (.int (Int32.ofNat W)), .val (.int (Int32.ofNat H)), .val (.int (Int32.ofNat (W + H))), .val (.int (Int32.ofNat A)), .val (.int (Int32.ofNat B)), .val (.ref b1), .val (.int (Int32.ofNat (min A B))), .val (.int (Int32.ofNat (max A B))), .val (.int (-1 : Int32)), .val (.int (Int32.ofNat (min A B))), .val (.int (Int32.ofNat (max A B))), .val (.int (Int32.ofNat (max A B))), .unset, .unset] [(.long ((1 : Int64) <<< ((Int32.ofNat A) &&& 0x3f).toInt64))])
        refine Go.step (fun tt kk => XS.lconst X45.here hx rfl (hb hby at_149) kk) ?_
        show Go _ _ _ _ _ _ _ T45 (mkF m 150 #[.val (.int i0), .val (.int i1), .val (.int i2), .val (.int i3), .val (.int (Int32.ofNat W)), .val (.int (Int32.ofNat H)), .val (.int (Int32.ofNat (W + H))), .val (.int (Int32.ofNat A)), .val (.int (Int32.ofNat B)), .val (.ref b1), .val (.int (Int32.ofNat (min A B))), .val (.int (Int32.ofNat (max A B))), .val (.int (-1 : Int32)), .val (.int (Int32.ofNat (min A B))), .val (.int (Int32.ofNat (max A B))), .val (.int (Int32.ofNat (max A B))), .unset, .unset] [(.long (1 : Int64)), (.long ((1 : Int64) <<< ((Int32.ofNat A) &&& 0x3f).toInt64))])
        refine Go.step (fun tt kk => XS.iload X45.here hx rfl (hb hby at_150) rfl kk) ?_
        show Go _ _ _ _ _ _ _ T45 (mkF m 152 #[.val (.int i0), .val (.int i1), .val (.int i2), .val (.int i3), .val (.int (Int32.ofNat W)), .val (.int (Int32.ofNat H)), .val (.int (Int32.ofNat (W + H))), .val (.int (Int32.ofNat A)), .val (.int (Int32.ofNat B)), .val (.ref b1), .val (.int (Int32.ofNat (min A B))), .val (.int (Int32.ofNat (max A B))), .val (.int (-1 : Int32)), .val (.int (Int32.ofNat (min A B))), .val (.int (Int32.ofNat (max A B))), .val (.int (Int32.ofNat (max A B))), .unset, .unset] [(.int (Int32.ofNat B)), (.long (1 : Int64)), (.long ((1 : Int64) <<< ((Int32.ofNat A) &&& 0x3f).toInt64))])
        refine Go.step (fun tt kk => XS.lshl X45.here hx rfl (hb hby at_152) rfl kk) ?_
        show Go _ _ _ _ _ _ _ T45 (mkF m 153 #[.val (.int i0), .val (.int i1), .val (.int i2), .val (.int i3), .val (.int (Int32.ofNat W)), .val (.int (Int32.ofNat H)), .val (.int (Int32.ofNat (W + H))), .val (.int (Int32.ofNat A)), .val (.int (Int32.ofNat B)), .val (.ref b1), .val (.int (Int32.ofNat (min A B))), .val (.int (Int32.ofNat (max A B))), .val (.int (-1 : Int32)), .val (.int (Int32.ofNat (min A B))), .val (.int (Int32.ofNat (max A B))), .val (.int (Int32.ofNat (max A B))), .unset, .unset] [(.long ((1 : Int64) <<< ((Int32.ofNat B) &&& 0x3f).toInt64)), (.long ((1 : Int64) <<< ((Int32.ofNat A) &&& 0x3f).toInt64))])
        refine Go.step (fun tt kk => XS.lor X45.here hx rfl (hb hby at_153) rfl kk) ?_
        show Go _ _ _ _ _ _ _ T45 (mkF m 154 #[.val (.int i0), .val (.int i1), .val (.int i2), .val (.int i3), .val (.int (Int32.ofNat W)), .val (.int (Int32.ofNat H)), .val (.int (Int32.ofNat (W + H))), .val (.int (Int32.ofNat A)), .val (.int (Int32.ofNat B)), .val (.ref b1), .val (.int (Int32.ofNat (min A B))), .val (.int (Int32.ofNat (max A B))), .val (.int (-1 : Int32)), .val (.int (Int32.ofNat (min A B))), .val (.int (Int32.ofNat (max A B))), .val (.int (Int32.ofNat (max A B))), .unset, .unset] [(.long (((1 : Int64) <<< ((Int32.ofNat A) &&& 0x3f).toInt64) ||| ((1 : Int64) <<< ((Int32.ofNat B) &&& 0x3f).toInt64)))])
        refine Go.step (fun tt kk => XS.lstore X45.here hx rfl (hb hby at_154) rfl (l' := #[.val (.int i0), .val (.int i1), .val (.int i2), .val (.int i3), .val (.int (Int32.ofNat W)), .val (.int (Int32.ofNat H)), .val (.int (Int32.ofNat (W + H))), .val (.int (Int32.ofNat A)), .val (.int (Int32.ofNat B)), .val (.ref b1), .val (.int (Int32.ofNat (min A B))), .val (.int (Int32.ofNat (max A B))), .val (.int (-1 : Int32)), .val (.int (Int32.ofNat (min A B))), .val (.int (Int32.ofNat (max A B))), .val (.int (Int32.ofNat (max A B))), .val (.long (((1 : Int64) <<< ((Int32.ofNat A) &&& 0x3f).toInt64) ||| ((1 : Int64) <<< ((Int32.ofNat B) &&& 0x3f).toInt64))), .second]) rfl kk) ?_
        show Go _ _ _ _ _ _ _ T45 (mkF m 156 #[.val (.int i0), .val (.int i1), .val (.int i2), .val (.int i3), .val (.int (Int32.ofNat W)), .val (.int (Int32.ofNat H)), .val (.int (Int32.ofNat (W + H))), .val (.int (Int32.ofNat A)), .val (.int (Int32.ofNat B)), .val (.ref b1), .val (.int (Int32.ofNat (min A B))), .val (.int (Int32.ofNat (max A B))), .val (.int (-1 : Int32)), .val (.int (Int32.ofNat (min A B))), .val (.int (Int32.ofNat (max A B))), .val (.int (Int32.ofNat (max A B))), .val (.long (((1 : Int64) <<< ((Int32.ofNat A) &&& 0x3f).toInt64) ||| ((1 : Int64) <<< ((Int32.ofNat B) &&& 0x3f).toInt64))), .second] [])
        refine Go.step (fun tt kk => XS.iload X45.here hx rfl (hb hby at_156) rfl kk) ?_
        show Go _ _ _ _ _ _ _ T45 (mkF m 158 #[.val (.int i0), .val (.int i1), .val (.int i2), .val (.int i3), .val (.int (Int32.ofNat W)), .val (.int (Int32.ofNat H)), .val (.int (Int32.ofNat (W + H))), .val (.int (Int32.ofNat A)), .val (.int (Int32.ofNat B)), .val (.ref b1), .val (.int (Int32.ofNat (min A B))), .val (.int (Int32.ofNat (max A B))), .val (.int (-1 : Int32)), .val (.int (Int32.ofNat (min A B))), .val (.int (Int32.ofNat (max A B))), .val (.int (Int32.ofNat (max A B))), .val (.long (((1 : Int64) <<< ((Int32.ofNat A) &&& 0x3f).toInt64) ||| ((1 : Int64) <<< ((Int32.ofNat B) &&& 0x3f).toInt64))), .second] [(.int (Int32.ofNat (min A B)))])
        refine Go.step (fun tt kk => XS.iload X45.here hx rfl (hb hby at_158) rfl kk) ?_
        show Go _ _ _ _ _ _ _ T45 (mkF m 160 #[.val (.int i0), .val (.int i1), .val (.int i2), .val (.int i3), .val (.int (Int32.ofNat W)), .val (.int (Int32.ofNat H)), .val (.int (Int32.ofNat (W + H))), .val (.int (Int32.ofNat A)), .val (.int (Int32.ofNat B)), .val (.ref b1), .val (.int (Int32.ofNat (min A B))), .val (.int (Int32.ofNat (max A B))), .val (.int (-1 : Int32)), .val (.int (Int32.ofNat (min A B))), .val (.int (Int32.ofNat (max A B))), .val (.int (Int32.ofNat (max A B))), .val (.long (((1 : Int64) <<< ((Int32.ofNat A) &&& 0x3f).toInt64) ||| ((1 : Int64) <<< ((Int32.ofNat B) &&& 0x3f).toInt64))), .second] [(.int (Int32.ofNat (min A B))), (.int (Int32.ofNat (min A B)))])
        refine Go.step (fun tt kk => XS.icmpNo X45.here hx rfl (hb hby at_160) rfl (teq ((own_eq _ _ (by omega) (by omega)).mpr (by omega))).2 kk) ?_
        show Go _ _ _ _ _ _ _ T45 (mkF m 163 #[.val (.int i0), .val (.int i1), .val (.int i2), .val (.int i3), .val (.int (Int32.ofNat W)), .val (.int (Int32.ofNat H)), .val (.int (Int32.ofNat (W + H))), .val (.int (Int32.ofNat A)), .val (.int (Int32.ofNat B)), .val (.ref b1), .val (.int (Int32.ofNat (min A B))), .val (.int (Int32.ofNat (max A B))), .val (.int (-1 : Int32)), .val (.int (Int32.ofNat (min A B))), .val (.int (Int32.ofNat (max A B))), .val (.int (Int32.ofNat (max A B))), .val (.long (((1 : Int64) <<< ((Int32.ofNat A) &&& 0x3f).toInt64) ||| ((1 : Int64) <<< ((Int32.ofNat B) &&& 0x3f).toInt64))), .second] [])
        refine Go.step (fun tt kk => XS.iload X45.here hx rfl (hb hby at_163) rfl kk) ?_
        show Go _ _ _ _ _ _ _ T45 (mkF m 165 #[.val (.int i0), .val (.int i1), .val (.int i2), .val (.int i3), .val (.int (Int32.ofNat W)), .val (.int (Int32.ofNat H)), .val (.int (Int32.ofNat (W + H))), .val (.int (Int32.ofNat A)), .val (.int (Int32.ofNat B)), .val (.ref b1), .val (.int (Int32.ofNat (min A B))), .val (.int (Int32.ofNat (max A B))), .val (.int (-1 : Int32)), .val (.int (Int32.ofNat (min A B))), .val (.int (Int32.ofNat (max A B))), .val (.int (Int32.ofNat (max A B))), .val (.long (((1 : Int64) <<< ((Int32.ofNat A) &&& 0x3f).toInt64) ||| ((1 : Int64) <<< ((Int32.ofNat B) &&& 0x3f).toInt64))), .second] [(.int (Int32.ofNat (max A B)))])
        refine Go.step (fun tt kk => XS.iload X45.here hx rfl (hb hby at_165) rfl kk) ?_
        show Go _ _ _ _ _ _ _ T45 (mkF m 167 #[.val (.int i0), .val (.int i1), .val (.int i2), .val (.int i3), .val (.int (Int32.ofNat W)), .val (.int (Int32.ofNat H)), .val (.int (Int32.ofNat (W + H))), .val (.int (Int32.ofNat A)), .val (.int (Int32.ofNat B)), .val (.ref b1), .val (.int (Int32.ofNat (min A B))), .val (.int (Int32.ofNat (max A B))), .val (.int (-1 : Int32)), .val (.int (Int32.ofNat (min A B))), .val (.int (Int32.ofNat (max A B))), .val (.int (Int32.ofNat (max A B))), .val (.long (((1 : Int64) <<< ((Int32.ofNat A) &&& 0x3f).toInt64) ||| ((1 : Int64) <<< ((Int32.ofNat B) &&& 0x3f).toInt64))), .second] [(.int (Int32.ofNat (max A B))), (.int (Int32.ofNat (max A B)))])
        refine Go.step (fun tt kk => XS.icmpNo X45.here hx rfl (hb hby at_167) rfl (teq ((own_eq _ _ (by omega) (by omega)).mpr (by omega))).2 kk) ?_
        show Go _ _ _ _ _ _ _ T45 (mkF m 170 #[.val (.int i0), .val (.int i1), .val (.int i2), .val (.int i3), .val (.int (Int32.ofNat W)), .val (.int (Int32.ofNat H)), .val (.int (Int32.ofNat (W + H))), .val (.int (Int32.ofNat A)), .val (.int (Int32.ofNat B)), .val (.ref b1), .val (.int (Int32.ofNat (min A B))), .val (.int (Int32.ofNat (max A B))), .val (.int (-1 : Int32)), .val (.int (Int32.ofNat (min A B))), .val (.int (Int32.ofNat (max A B))), .val (.int (Int32.ofNat (max A B))), .val (.long (((1 : Int64) <<< ((Int32.ofNat A) &&& 0x3f).toInt64) ||| ((1 : Int64) <<< ((Int32.ofNat B) &&& 0x3f).toInt64))), .second] [])
        refine Go.step (fun tt kk => XS.iload X45.here hx rfl (hb hby at_170) rfl kk) ?_
        show Go _ _ _ _ _ _ _ T45 (mkF m 172 #[.val (.int i0), .val (.int i1), .val (.int i2), .val (.int i3), .val (.int (Int32.ofNat W)), .val (.int (Int32.ofNat H)), .val (.int (Int32.ofNat (W + H))), .val (.int (Int32.ofNat A)), .val (.int (Int32.ofNat B)), .val (.ref b1), .val (.int (Int32.ofNat (min A B))), .val (.int (Int32.ofNat (max A B))), .val (.int (-1 : Int32)), .val (.int (Int32.ofNat (min A B))), .val (.int (Int32.ofNat (max A B))), .val (.int (Int32.ofNat (max A B))), .val (.long (((1 : Int64) <<< ((Int32.ofNat A) &&& 0x3f).toInt64) ||| ((1 : Int64) <<< ((Int32.ofNat B) &&& 0x3f).toInt64))), .second] [(.int (-1 : Int32))])
        refine Go.step (fun tt kk => XS.iconst X45.here hx rfl (hb hby at_172) kk) ?_
        show Go _ _ _ _ _ _ _ T45 (mkF m 173 #[.val (.int i0), .val (.int i1), .val (.int i2), .val (.int i3), .val (.int (Int32.ofNat W)), .val (.int (Int32.ofNat H)), .val (.int (Int32.ofNat (W + H))), .val (.int (Int32.ofNat A)), .val (.int (Int32.ofNat B)), .val (.ref b1), .val (.int (Int32.ofNat (min A B))), .val (.int (Int32.ofNat (max A B))), .val (.int (-1 : Int32)), .val (.int (Int32.ofNat (min A B))), .val (.int (Int32.ofNat (max A B))), .val (.int (Int32.ofNat (max A B))), .val (.long (((1 : Int64) <<< ((Int32.ofNat A) &&& 0x3f).toInt64) ||| ((1 : Int64) <<< ((Int32.ofNat B) &&& 0x3f).toInt64))), .second] [(.int (-1 : Int32)), (.int (-1 : Int32))])
        refine Go.step (fun tt kk => XS.icmpNo X45.here hx rfl (hb hby at_173) rfl (teq rfl).2 kk) ?_
        show Go _ _ _ _ _ _ _ T45 (mkF m 176 #[.val (.int i0), .val (.int i1), .val (.int i2), .val (.int i3), .val (.int (Int32.ofNat W)), .val (.int (Int32.ofNat H)), .val (.int (Int32.ofNat (W + H))), .val (.int (Int32.ofNat A)), .val (.int (Int32.ofNat B)), .val (.ref b1), .val (.int (Int32.ofNat (min A B))), .val (.int (Int32.ofNat (max A B))), .val (.int (-1 : Int32)), .val (.int (Int32.ofNat (min A B))), .val (.int (Int32.ofNat (max A B))), .val (.int (Int32.ofNat (max A B))), .val (.long (((1 : Int64) <<< ((Int32.ofNat A) &&& 0x3f).toInt64) ||| ((1 : Int64) <<< ((Int32.ofNat B) &&& 0x3f).toInt64))), .second] [])
        refine Go.step (fun tt kk => XS.aload X45.here hx rfl (hb hby at_176) rfl rfl kk) ?_
        show Go _ _ _ _ _ _ _ T45 (mkF m 178 #[.val (.int i0), .val (.int i1), .val (.int i2), .val (.int i3), .val (.int (Int32.ofNat W)), .val (.int (Int32.ofNat H)), .val (.int (Int32.ofNat (W + H))), .val (.int (Int32.ofNat A)), .val (.int (Int32.ofNat B)), .val (.ref b1), .val (.int (Int32.ofNat (min A B))), .val (.int (Int32.ofNat (max A B))), .val (.int (-1 : Int32)), .val (.int (Int32.ofNat (min A B))), .val (.int (Int32.ofNat (max A B))), .val (.int (Int32.ofNat (max A B))), .val (.long (((1 : Int64) <<< ((Int32.ofNat A) &&& 0x3f).toInt64) ||| ((1 : Int64) <<< ((Int32.ofNat B) &&& 0x3f).toInt64))), .second] [(.ref b1)])
        obtain ⟨v46, T46, L46, X46, q46, st46⟩ := c_virtUp X45 hx hZ hown (y' := (⟨"com/example/gridwright/gridwright/engine/SmallDraft", "taken", "()J"⟩ : MethodName)) (y := (⟨"com/example/gridwright/gridwright/engine/Draft", "taken", "()J"⟩ : MethodName)) (C := "com/example/gridwright/gridwright/engine/SmallDraft") (owner := "com/example/gridwright/gridwright/engine/Draft") (hw _ (List.mem_of_getElem? (i := 121) rfl)) (hw _ (List.mem_of_getElem? (i := 122) rfl)) (hw _ (List.mem_of_getElem? (i := 123) rfl)) (hw _ (List.mem_of_getElem? (i := 125) rfl)) (hw _ (List.mem_of_getElem? (i := 124) rfl)) (hw _ (List.mem_of_getElem? (i := 10) rfl)) (hw _ (List.mem_of_getElem? (i := 126) rfl)) (by decide) (a := b1) (argsL := []) (rest := []) (rmTk l Z a0 hw [] b1 (((0 : Int64) ||| (sh (Int32.ofNat (min A B)))) ||| (sh (Int32.ofNat (max A B)))) h43 n0 Z43 F43q2) e45 E43q pd_7 rfl (by rw [hml]; rfl) (W := 0) (by show 2 * 0 + _ ≤ _; exact Nat.le_of_eq rfl) (by decide) (by decide) (by decide) (by decide) (hb hby at_178) (Ls := #[.val (.int i0), .val (.int i1), .val (.int i2), .val (.int i3), .val (.int (Int32.ofNat W)), .val (.int (Int32.ofNat H)), .val (.int (Int32.ofNat (W + H))), .val (.int (Int32.ofNat A)), .val (.int (Int32.ofNat B)), .val (.ref b1), .val (.int (Int32.ofNat (min A B))), .val (.int (Int32.ofNat (max A B))), .val (.int (-1 : Int32)), .val (.int (Int32.ofNat (min A B))), .val (.int (Int32.ofNat (max A B))), .val (.int (Int32.ofNat (max A B))), .val (.long (((1 : Int64) <<< ((Int32.ofNat A) &&& 0x3f).toInt64) ||| ((1 : Int64) <<< ((Int32.ofNat B) &&& 0x3f).toInt64))), .second])
        obtain ⟨rfl, rfl, e46⟩ := q46
        have N46 := Fr.app N45 (Fr.nil n0)
        refine Go.step (st46) ?_
        show Go _ _ _ _ _ _ _ T46 (mkF m 181 #[.val (.int i0), .val (.int i1), .val (.int i2), .val (.int i3), .val (.int (Int32.ofNat W)), .val (.int (Int32.ofNat H)), .val (.int (Int32.ofNat (W + H))), .val (.int (Int32.ofNat A)), .val (.int (Int32.ofNat B)), .val (.ref b1), .val (.int (Int32.ofNat (min A B))), .val (.int (Int32.ofNat (max A B))), .val (.int (-1 : Int32)), .val (.int (Int32.ofNat (min A B))), .val (.int (Int32.ofNat (max A B))), .val (.int (Int32.ofNat (max A B))), .val (.long (((1 : Int64) <<< ((Int32.ofNat A) &&& 0x3f).toInt64) ||| ((1 : Int64) <<< ((Int32.ofNat B) &&& 0x3f).toInt64))), .second] [(.long (((0 : Int64) ||| (sh (Int32.ofNat (min A B)))) ||| (sh (Int32.ofNat (max A B)))))])
        refine Go.step (fun tt kk => XS.lload X46.here hx rfl (hb hby at_181) rfl kk) ?_
        show Go _ _ _ _ _ _ _ T46 (mkF m 183 #[.val (.int i0), .val (.int i1), .val (.int i2), .val (.int i3), .val (.int (Int32.ofNat W)), .val (.int (Int32.ofNat H)), .val (.int (Int32.ofNat (W + H))), .val (.int (Int32.ofNat A)), .val (.int (Int32.ofNat B)), .val (.ref b1), .val (.int (Int32.ofNat (min A B))), .val (.int (Int32.ofNat (max A B))), .val (.int (-1 : Int32)), .val (.int (Int32.ofNat (min A B))), .val (.int (Int32.ofNat (max A B))), .val (.int (Int32.ofNat (max A B))), .val (.long (((1 : Int64) <<< ((Int32.ofNat A) &&& 0x3f).toInt64) ||| ((1 : Int64) <<< ((Int32.ofNat B) &&& 0x3f).toInt64))), .second] [(.long (((1 : Int64) <<< ((Int32.ofNat A) &&& 0x3f).toInt64) ||| ((1 : Int64) <<< ((Int32.ofNat B) &&& 0x3f).toInt64))), (.long (((0 : Int64) ||| (sh (Int32.ofNat (min A B)))) ||| (sh (Int32.ofNat (max A B)))))])
        refine Go.step (fun tt kk => XS.lcmp X46.here hx rfl (hb hby at_183) rfl kk) ?_
        show Go _ _ _ _ _ _ _ T46 (mkF m 184 #[.val (.int i0), .val (.int i1), .val (.int i2), .val (.int i3), .val (.int (Int32.ofNat W)), .val (.int (Int32.ofNat H)), .val (.int (Int32.ofNat (W + H))), .val (.int (Int32.ofNat A)), .val (.int (Int32.ofNat B)), .val (.ref b1), .val (.int (Int32.ofNat (min A B))), .val (.int (Int32.ofNat (max A B))), .val (.int (-1 : Int32)), .val (.int (Int32.ofNat (min A B))), .val (.int (Int32.ofNat (max A B))), .val (.int (Int32.ofNat (max A B))), .val (.long (((1 : Int64) <<< ((Int32.ofNat A) &&& 0x3f).toInt64) ||| ((1 : Int64) <<< ((Int32.ofNat B) &&& 0x3f).toInt64))), .second] [(.int (lcmpW (((0 : Int64) ||| (sh (Int32.ofNat (min A B)))) ||| (sh (Int32.ofNat (max A B)))) (((1 : Int64) <<< ((Int32.ofNat A) &&& 0x3f).toInt64) ||| ((1 : Int64) <<< ((Int32.ofNat B) &&& 0x3f).toInt64))))])
        refine Go.step (fun tt kk => XS.ifNo X46.here hx rfl (hb hby at_184) rfl ((if0 _ _).trans (teq ((lw_eq _ _).mpr (by
              rw [own_or0]
              rcases Nat.lt_or_ge A B with q | q
              · rw [Nat.min_eq_left (by omega), Nat.max_eq_right (by omega)]
              · rw [Nat.min_eq_right (by omega), Nat.max_eq_left (by omega), Int64.or_comm]))).2) kk) ?_
        show Go _ _ _ _ _ _ _ T46 (mkF m 187 #[.val (.int i0), .val (.int i1), .val (.int i2), .val (.int i3), .val (.int (Int32.ofNat W)), .val (.int (Int32.ofNat H)), .val (.int (Int32.ofNat (W + H))), .val (.int (Int32.ofNat A)), .val (.int (Int32.ofNat B)), .val (.ref b1), .val (.int (Int32.ofNat (min A B))), .val (.int (Int32.ofNat (max A B))), .val (.int (-1 : Int32)), .val (.int (Int32.ofNat (min A B))), .val (.int (Int32.ofNat (max A B))), .val (.int (Int32.ofNat (max A B))), .val (.long (((1 : Int64) <<< ((Int32.ofNat A) &&& 0x3f).toInt64) ||| ((1 : Int64) <<< ((Int32.ofNat B) &&& 0x3f).toInt64))), .second] [])
        refine Go.step (fun tt kk => XS.iconst X46.here hx rfl (hb hby at_187) kk) ?_
        show Go _ _ _ _ _ _ _ T46 (mkF m 188 #[.val (.int i0), .val (.int i1), .val (.int i2), .val (.int i3), .val (.int (Int32.ofNat W)), .val (.int (Int32.ofNat H)), .val (.int (Int32.ofNat (W + H))), .val (.int (Int32.ofNat A)), .val (.int (Int32.ofNat B)), .val (.ref b1), .val (.int (Int32.ofNat (min A B))), .val (.int (Int32.ofNat (max A B))), .val (.int (-1 : Int32)), .val (.int (Int32.ofNat (min A B))), .val (.int (Int32.ofNat (max A B))), .val (.int (Int32.ofNat (max A B))), .val (.long (((1 : Int64) <<< ((Int32.ofNat A) &&& 0x3f).toInt64) ||| ((1 : Int64) <<< ((Int32.ofNat B) &&& 0x3f).toInt64))), .second] [(.int (1 : Int32))])
        refine Go.step (fun tt kk => XS.goto X46.here hx rfl (pc0 := 188) (pc' := 192) rfl (hb hby at_188) (by decide) (by decide) kk) ?_
        show Go _ _ _ _ _ _ _ T46 (mkF m 192 #[.val (.int i0), .val (.int i1), .val (.int i2), .val (.int i3), .val (.int (Int32.ofNat W)), .val (.int (Int32.ofNat H)), .val (.int (Int32.ofNat (W + H))), .val (.int (Int32.ofNat A)), .val (.int (Int32.ofNat B)), .val (.ref b1), .val (.int (Int32.ofNat (min A B))), .val (.int (Int32.ofNat (max A B))), .val (.int (-1 : Int32)), .val (.int (Int32.ofNat (min A B))), .val (.int (Int32.ofNat (max A B))), .val (.int (Int32.ofNat (max A B))), .val (.long (((1 : Int64) <<< ((Int32.ofNat A) &&& 0x3f).toInt64) ||| ((1 : Int64) <<< ((Int32.ofNat B) &&& 0x3f).toInt64))), .second] [(.int (1 : Int32))])
        refine go_retN X46 hx (t := .boolean) hret (by simp) hlk (hb hby at_192) (w := (1 : Int32)) rfl ?_ (by decide) (by decide)
        try rw [e46]
        exact ⟨rfl, N46⟩
    · show Go _ _ _ _ _ _ _ T5 (mkF m 70 #[.val (.int i0), .val (.int i1), .val (.int i2), .val (.int i3), .val (.int (Int32.ofNat W)), .val (.int (Int32.ofNat H)), .val (.int (Int32.ofNat (W + H))), .val (.int (Int32.ofNat A)), .val (.int (Int32.ofNat B)), .val (.ref b1), .unset, .unset, .unset, .unset, .unset, .unset, .unset, .unset] [])
      refine Go.step (fun tt kk => XS.aload X5.here hx rfl (hb hby at_70) rfl rfl kk) ?_
      show Go _ _ _ _ _ _ _ T5 (mkF m 72 #[.val (.int i0), .val (.int i1), .val (.int i2), .val (.int i3), .val (.int (Int32.ofNat W)), .val (.int (Int32.ofNat H)), .val (.int (Int32.ofNat (W + H))), .val (.int (Int32.ofNat A)), .val (.int (Int32.ofNat B)), .val (.ref b1), .unset, .unset, .unset, .unset, .unset, .unset, .unset, .unset] [(.ref b1)])
      refine Go.step (fun tt kk => XS.iload X5.here hx rfl (hb hby at_72) rfl kk) ?_
      show Go _ _ _ _ _ _ _ T5 (mkF m 74 #[.val (.int i0), .val (.int i1), .val (.int i2), .val (.int i3), .val (.int (Int32.ofNat W)), .val (.int (Int32.ofNat H)), .val (.int (Int32.ofNat (W + H))), .val (.int (Int32.ofNat A)), .val (.int (Int32.ofNat B)), .val (.ref b1), .unset, .unset, .unset, .unset, .unset, .unset, .unset, .unset] [(.int (Int32.ofNat A)), (.ref b1)])
      obtain ⟨v47, T47, L47, X47, q47, st47⟩ := c_virt X5 hx hZ hown (y' := (⟨"com/example/gridwright/gridwright/engine/SmallDraft", "await", "(I)V"⟩ : MethodName)) (y := (⟨"com/example/gridwright/gridwright/engine/SmallDraft", "await", "(I)V"⟩ : MethodName)) (C := "com/example/gridwright/gridwright/engine/SmallDraft") (hw _ (List.mem_of_getElem? (i := 94) rfl)) (hw _ (List.mem_of_getElem? (i := 95) rfl)) (notFace_of_selects (args := #[]) (mvT hZ (hw _ (List.mem_of_getElem? (i := 97) rfl)))) (hw _ (List.mem_of_getElem? (i := 97) rfl)) (hw _ (List.mem_of_getElem? (i := 96) rfl)) (hw _ (List.mem_of_getElem? (i := 3) rfl)) (hw _ (List.mem_of_getElem? (i := 98) rfl)) (by decide) (a := b1) (argsL := [(.int (Int32.ofNat A))]) (rest := []) (rmAr l Z a0 hw [] b1 A W H (0 : Int64) (0 : Int32) (.ref b3) x2_0 x2_1 (0 : Int64) (0 : Int64) (1 : Int32) h5 n0 Z5 E5q F5q0 F5q1 F5q2 F5q3 F5q4 F5q5 F5q6 F5q7 F5q8 F5q9 F5q10 F5q11 gn_b1 (by omega) (by omega) hA0) e5 E5q pd_6 rfl (by rw [hml]; rfl) (W := 0) (by show 2 * 0 + _ ≤ _; exact Nat.le_of_eq rfl) (by decide) (by decide) (by decide) (by decide) (hb hby at_74) (Ls := #[.val (.int i0), .val (.int i1), .val (.int i2), .val (.int i3), .val (.int (Int32.ofNat W)), .val (.int (Int32.ofNat H)), .val (.int (Int32.ofNat (W + H))), .val (.int (Int32.ofNat A)), .val (.int (Int32.ofNat B)), .val (.ref b1), .unset, .unset, .unset, .unset, .unset, .unset, .unset, .unset])
      generalize e47 : T47.heap = h47 at q47
      obtain ⟨rfl, N47q, K47q, E47q, F47q0, F47q1, F47q2, F47q3, F47q4, F47q5, F47q6, F47q7, F47q8, F47q9, F47q10, F47q11⟩ := q47
      have N47 := Fr.app N5 N47q
      have Z47 : n0 ≤ h47.size := Nat.le_trans Z5 K47q.1
      refine Go.step (st47) ?_
      show Go _ _ _ _ _ _ _ T47 (mkF m 77 #[.val (.int i0), .val (.int i1), .val (.int i2), .val (.int i3), .val (.int (Int32.ofNat W)), .val (.int (Int32.ofNat H)), .val (.int (Int32.ofNat (W + H))), .val (.int (Int32.ofNat A)), .val (.int (Int32.ofNat B)), .val (.ref b1), .unset, .unset, .unset, .unset, .unset, .unset, .unset, .unset] [])
      refine Go.step (fun tt kk => XS.aload X47.here hx rfl (hb hby at_77) rfl rfl kk) ?_
      show Go _ _ _ _ _ _ _ T47 (mkF m 79 #[.val (.int i0), .val (.int i1), .val (.int i2), .val (.int i3), .val (.int (Int32.ofNat W)), .val (.int (Int32.ofNat H)), .val (.int (Int32.ofNat (W + H))), .val (.int (Int32.ofNat A)), .val (.int (Int32.ofNat B)), .val (.ref b1), .unset, .unset, .unset, .unset, .unset, .unset, .unset, .unset] [(.ref b1)])
      refine Go.step (fun tt kk => XS.iload X47.here hx rfl (hb hby at_79) rfl kk) ?_
      show Go _ _ _ _ _ _ _ T47 (mkF m 81 #[.val (.int i0), .val (.int i1), .val (.int i2), .val (.int i3), .val (.int (Int32.ofNat W)), .val (.int (Int32.ofNat H)), .val (.int (Int32.ofNat (W + H))), .val (.int (Int32.ofNat A)), .val (.int (Int32.ofNat B)), .val (.ref b1), .unset, .unset, .unset, .unset, .unset, .unset, .unset, .unset] [(.int (Int32.ofNat B)), (.ref b1)])
      obtain ⟨v48, T48, L48, X48, q48, st48⟩ := c_virt X47 hx hZ hown (y' := (⟨"com/example/gridwright/gridwright/engine/SmallDraft", "await", "(I)V"⟩ : MethodName)) (y := (⟨"com/example/gridwright/gridwright/engine/SmallDraft", "await", "(I)V"⟩ : MethodName)) (C := "com/example/gridwright/gridwright/engine/SmallDraft") (hw _ (List.mem_of_getElem? (i := 94) rfl)) (hw _ (List.mem_of_getElem? (i := 95) rfl)) (notFace_of_selects (args := #[]) (mvT hZ (hw _ (List.mem_of_getElem? (i := 97) rfl)))) (hw _ (List.mem_of_getElem? (i := 97) rfl)) (hw _ (List.mem_of_getElem? (i := 96) rfl)) (hw _ (List.mem_of_getElem? (i := 3) rfl)) (hw _ (List.mem_of_getElem? (i := 98) rfl)) (by decide) (a := b1) (argsL := [(.int (Int32.ofNat B))]) (rest := []) (rmAc l Z a0 hw [] b1 B W H (0 : Int64) (0 : Int32) (.ref b3) x2_0 x2_1 ((0 : Int64) ||| (sh (Int32.ofNat A))) (0 : Int64) (1 : Int32) h47 n0 Z47 E47q F47q0 F47q1 F47q2 F47q3 F47q4 F47q5 F47q6 F47q7 F47q8 F47q9 F47q10 F47q11 gn_b1 (by omega) (by omega) hB0) e47 E47q pd_6 rfl (by rw [hml]; rfl) (W := 0) (by show 2 * 0 + _ ≤ _; exact Nat.le_of_eq rfl) (by decide) (by decide) (by decide) (by decide) (hb hby at_81) (Ls := #[.val (.int i0), .val (.int i1), .val (.int i2), .val (.int i3), .val (.int (Int32.ofNat W)), .val (.int (Int32.ofNat H)), .val (.int (Int32.ofNat (W + H))), .val (.int (Int32.ofNat A)), .val (.int (Int32.ofNat B)), .val (.ref b1), .unset, .unset, .unset, .unset, .unset, .unset, .unset, .unset])
      generalize e48 : T48.heap = h48 at q48
      obtain ⟨rfl, N48q, K48q, E48q, F48q0, F48q1, F48q2, F48q3, F48q4, F48q5, F48q6, F48q7, F48q8, F48q9, F48q10, F48q11⟩ := q48
      have N48 := Fr.app N47 N48q
      have Z48 : n0 ≤ h48.size := Nat.le_trans Z47 K48q.1
      refine Go.step (st48) ?_
      show Go _ _ _ _ _ _ _ T48 (mkF m 84 #[.val (.int i0), .val (.int i1), .val (.int i2), .val (.int i3), .val (.int (Int32.ofNat W)), .val (.int (Int32.ofNat H)), .val (.int (Int32.ofNat (W + H))), .val (.int (Int32.ofNat A)), .val (.int (Int32.ofNat B)), .val (.ref b1), .unset, .unset, .unset, .unset, .unset, .unset, .unset, .unset] [])
      refine Go.step (fun tt kk => XS.aload X48.here hx rfl (hb hby at_84) rfl rfl kk) ?_
      show Go _ _ _ _ _ _ _ T48 (mkF m 86 #[.val (.int i0), .val (.int i1), .val (.int i2), .val (.int i3), .val (.int (Int32.ofNat W)), .val (.int (Int32.ofNat H)), .val (.int (Int32.ofNat (W + H))), .val (.int (Int32.ofNat A)), .val (.int (Int32.ofNat B)), .val (.ref b1), .unset, .unset, .unset, .unset, .unset, .unset, .unset, .unset] [(.ref b1)])
      refine Go.step (fun tt kk => XS.iload X48.here hx rfl (hb hby at_86) rfl kk) ?_
      show Go _ _ _ _ _ _ _ T48 (mkF m 88 #[.val (.int i0), .val (.int i1), .val (.int i2), .val (.int i3), .val (.int (Int32.ofNat W)), .val (.int (Int32.ofNat H)), .val (.int (Int32.ofNat (W + H))), .val (.int (Int32.ofNat A)), .val (.int (Int32.ofNat B)), .val (.ref b1), .unset, .unset, .unset, .unset, .unset, .unset, .unset, .unset] [(.int (Int32.ofNat A)), (.ref b1)])
      obtain ⟨v49, T49, L49, X49, q49, st49⟩ := c_virt X48 hx hZ hown (y' := (⟨"com/example/gridwright/gridwright/engine/SmallDraft", "await", "(I)V"⟩ : MethodName)) (y := (⟨"com/example/gridwright/gridwright/engine/SmallDraft", "await", "(I)V"⟩ : MethodName)) (C := "com/example/gridwright/gridwright/engine/SmallDraft") (hw _ (List.mem_of_getElem? (i := 94) rfl)) (hw _ (List.mem_of_getElem? (i := 95) rfl)) (notFace_of_selects (args := #[]) (mvT hZ (hw _ (List.mem_of_getElem? (i := 97) rfl)))) (hw _ (List.mem_of_getElem? (i := 97) rfl)) (hw _ (List.mem_of_getElem? (i := 96) rfl)) (hw _ (List.mem_of_getElem? (i := 3) rfl)) (hw _ (List.mem_of_getElem? (i := 98) rfl)) (by decide) (a := b1) (argsL := [(.int (Int32.ofNat A))]) (rest := []) (rmAr l Z a0 hw [] b1 A W H (0 : Int64) (0 : Int32) (.ref b3) x2_0 x2_1 ((0 : Int64) ||| (sh (Int32.ofNat A))) ((0 : Int64) ||| (sh (Int32.ofNat (B - H)))) (1 : Int32) h48 n0 Z48 E48q F48q0 F48q1 F48q2 F48q3 F48q4 F48q5 F48q6 F48q7 F48q8 F48q9 F48q10 F48q11 gn_b1 (by omega) (by omega) hA0) e48 E48q pd_6 rfl (by rw [hml]; rfl) (W := 0) (by show 2 * 0 + _ ≤ _; exact Nat.le_of_eq rfl) (by decide) (by decide) (by decide) (by decide) (hb hby at_88) (Ls := #[.val (.int i0), .val (.int i1), .val (.int i2), .val (.int i3), .val (.int (Int32.ofNat W)), .val (.int (Int32.ofNat H)), .val (.int (Int32.ofNat (W + H))), .val (.int (Int32.ofNat A)), .val (.int (Int32.ofNat B)), .val (.ref b1), .unset, .unset, .unset, .unset, .unset, .unset, .unset, .unset])
      generalize e49 : T49.heap = h49 at q49
      obtain ⟨rfl, N49q, K49q, E49q, F49q0, F49q1, F49q2, F49q3, F49q4, F49q5, F49q6, F49q7, F49q8, F49q9, F49q10, F49q11⟩ := q49
      have N49 := Fr.app N48 N49q
      have Z49 : n0 ≤ h49.size := Nat.le_trans Z48 K49q.1
      refine Go.step (st49) ?_
      show Go _ _ _ _ _ _ _ T49 (mkF m 91 #[.val (.int i0), .val (.int i1), .val (.int i2), .val (.int i3), .val (.int (Int32.ofNat W)), .val (.int (Int32.ofNat H)), .val (.int (Int32.ofNat (W + H))), .val (.int (Int32.ofNat A)), .val (.int (Int32.ofNat B)), .val (.ref b1), .unset, .unset, .unset, .unset, .unset, .unset, .unset, .unset] [])
      have f50 : Fld Z h49 b1 "com/example/gridwright/gridwright/engine/SmallDraft" "waitingRows" "J" (.long (sh (Int32.ofNat A))) := by
        have q := F49q9
        rwa [own_or0, Int64.or_self] at q
      have f51 : Fld Z h49 b1 "com/example/gridwright/gridwright/engine/SmallDraft" "waitingColumns" "J" (.long (sh (Int32.ofNat (B - H)))) := by
        have q := F49q10
        rwa [own_or0] at q
      have f52 : Fld Z h49 b1 "com/example/gridwright/gridwright/engine/SmallDraft" "rows" "Z" (.int (bi (true = true))) := by
        have q := F49q11
        exact q
      obtain ⟨t1, t2, t3⟩ := own_one ⟨A, by omega⟩
      obtain ⟨u1, u2, u3⟩ := own_one ⟨B - H, by omega⟩
      dsimp only at t1 t2 t3 u1 u2 u3
      refine Go.step (fun tt kk => XS.aload X49.here hx rfl (hb hby at_91) rfl rfl kk) ?_
      show Go _ _ _ _ _ _ _ T49 (mkF m 93 #[.val (.int i0), .val (.int i1), .val (.int i2), .val (.int i3), .val (.int (Int32.ofNat W)), .val (.int (Int32.ofNat H)), .val (.int (Int32.ofNat (W + H))), .val (.int (Int32.ofNat A)), .val (.int (Int32.ofNat B)), .val (.ref b1), .unset, .unset, .unset, .unset, .unset, .unset, .unset, .unset] [(.ref b1)])
      obtain ⟨v53, T53, L53, X53, q53, st53⟩ := c_virt X49 hx hZ hown (y' := (⟨"com/example/gridwright/gridwright/engine/SmallDraft", "next", "()I"⟩ : MethodName)) (y := (⟨"com/example/gridwright/gridwright/engine/SmallDraft", "next", "()I"⟩ : MethodName)) (C := "com/example/gridwright/gridwright/engine/SmallDraft") (hw _ (List.mem_of_getElem? (i := 101) rfl)) (hw _ (List.mem_of_getElem? (i := 102) rfl)) (notFace_of_selects (args := #[]) (mvT hZ (hw _ (List.mem_of_getElem? (i := 104) rfl)))) (hw _ (List.mem_of_getElem? (i := 104) rfl)) (hw _ (List.mem_of_getElem? (i := 103) rfl)) (hw _ (List.mem_of_getElem? (i := 3) rfl)) (hw _ (List.mem_of_getElem? (i := 105) rfl)) (by decide) (a := b1) (argsL := []) (rest := []) (rmNr l Z a0 hw [] b1 W H (0 : Int64) (0 : Int32) (.ref b3) x2_0 x2_1 (sh (Int32.ofNat A)) (sh (Int32.ofNat (B - H))) true h49 n0 Z49 E49q F49q0 F49q1 F49q2 F49q3 F49q4 F49q5 F49q6 F49q7 F49q8 f50 f51 f52 gn_b1 t2 (Or.inl rfl)) e49 E49q pd_3 rfl (by rw [hml]; rfl) (W := 0) (by show 2 * 0 + _ ≤ _; exact Nat.le_of_eq rfl) (by decide) (by decide) (by decide) (by decide) (hb hby at_93) (Ls := #[.val (.int i0), .val (.int i1), .val (.int i2), .val (.int i3), .val (.int (Int32.ofNat W)), .val (.int (Int32.ofNat H)), .val (.int (Int32.ofNat (W + H))), .val (.int (Int32.ofNat A)), .val (.int (Int32.ofNat B)), .val (.ref b1), .unset, .unset, .unset, .unset, .unset, .unset, .unset, .unset])
      generalize e53 : T53.heap = h53 at q53
      obtain ⟨rfl, N53q, K53q, E53q, F53q0, F53q1, F53q2, F53q3, F53q4, F53q5, F53q6, F53q7, F53q8, F53q9, F53q10, F53q11⟩ := q53
      have N53 := Fr.app N49 N53q
      have Z53 : n0 ≤ h53.size := Nat.le_trans Z49 K53q.1
      refine Go.step (st53) ?_
      show Go _ _ _ _ _ _ _ T53 (mkF m 96 #[.val (.int i0), .val (.int i1), .val (.int i2), .val (.int i3), .val (.int (Int32.ofNat W)), .val (.int (Int32.ofNat H)), .val (.int (Int32.ofNat (W + H))), .val (.int (Int32.ofNat A)), .val (.int (Int32.ofNat B)), .val (.ref b1), .unset, .unset, .unset, .unset, .unset, .unset, .unset, .unset] [(.int (ntz (sh (Int32.ofNat A))))])
      refine Go.step (fun tt kk => XS.istore X53.here hx rfl (hb hby at_96) rfl (l' := #[.val (.int i0), .val (.int i1), .val (.int i2), .val (.int i3), .val (.int (Int32.ofNat W)), .val (.int (Int32.ofNat H)), .val (.int (Int32.ofNat (W + H))), .val (.int (Int32.ofNat A)), .val (.int (Int32.ofNat B)), .val (.ref b1), .val (.int (ntz (sh (Int32.ofNat A)))), .unset, .unset, .unset, .unset, .unset, .unset, .unset]) rfl kk) ?_
      show Go _ _ _ _ _ _ _ T53 (mkF m 98 #[.val (.int i0), .val (.int i1), .val (.int i2), .val (.int i3), .val (.int (Int32.ofNat W)), .val (.int (Int32.ofNat H)), .val (.int (Int32.ofNat (W + H))), .val (.int (Int32.ofNat A)), .val (.int (Int32.ofNat B)), .val (.ref b1), .val (.int (ntz (sh (Int32.ofNat A)))), .unset, .unset, .unset, .unset, .unset, .unset, .unset] [])
      rw [t1]
      show Go _ _ _ _ _ _ _ T53 (mkF m 98 #[.val (.int i0), .val (.int i1), .val (.int i2), .val (.int i3), .val (.int (Int32.ofNat W)), .val (.int (Int32.ofNat H)), .val (.int (Int32.ofNat (W + H))), .val (.int (Int32.ofNat A)), .val (.int (Int32.ofNat B)), .val (.ref b1), .val (.int (Int32.ofNat A)), .unset, .unset, .unset, .unset, .unset, .unset, .unset] [])
      have f54 : Fld Z h53 b1 "com/example/gridwright/gridwright/engine/SmallDraft" "waitingRows" "J" (.long (0 : Int64)) := by
        have q := F53q9
        rwa [t3] at q
      have f55 : Fld Z h53 b1 "com/example/gridwright/gridwright/engine/Draft" "taken" "J" (.long ((0 : Int64) ||| (sh (Int32.ofNat A)))) := by
        have q := F53q2
        rwa [t1] at q
      refine Go.step (fun tt kk => XS.aload X53.here hx rfl (hb hby at_98) rfl rfl kk) ?_
      show Go _ _ _ _ _ _ _ T53 (mkF m 100 #[.val (.int i0), .val (.int i1), .val (.int i2), .val (.int i3), .val (.int (Int32.ofNat W)), .val (.int (Int32.ofNat H)), .val (.int (Int32.ofNat (W + H))), .val (.int (Int32.ofNat A)), .val (.int (Int32.ofNat B)), .val (.ref b1), .val (.int (Int32.ofNat A)), .unset, .unset, .unset, .unset, .unset, .unset, .unset] [(.ref b1)])
      obtain ⟨v56, T56, L56, X56, q56, st56⟩ := c_virt X53 hx hZ hown (y' := (⟨"com/example/gridwright/gridwright/engine/SmallDraft", "next", "()I"⟩ : MethodName)) (y := (⟨"com/example/gridwright/gridwright/engine/SmallDraft", "next", "()I"⟩ : MethodName)) (C := "com/example/gridwright/gridwright/engine/SmallDraft") (hw _ (List.mem_of_getElem? (i := 101) rfl)) (hw _ (List.mem_of_getElem? (i := 102) rfl)) (notFace_of_selects (args := #[]) (mvT hZ (hw _ (List.mem_of_getElem? (i := 104) rfl)))) (hw _ (List.mem_of_getElem? (i := 104) rfl)) (hw _ (List.mem_of_getElem? (i := 103) rfl)) (hw _ (List.mem_of_getElem? (i := 3) rfl)) (hw _ (List.mem_of_getElem? (i := 105) rfl)) (by decide) (a := b1) (argsL := []) (rest := []) (rmNc l Z a0 hw [] b1 W H ((0 : Int64) ||| (sh (Int32.ofNat A))) (0 : Int32) (.ref b3) x2_0 x2_1 (0 : Int64) (sh (Int32.ofNat (B - H))) true h53 n0 Z53 E53q F53q0 F53q1 f55 F53q3 F53q4 F53q5 F53q6 F53q7 F53q8 f54 F53q10 F53q11 gn_b1 u2 (Or.inr rfl)) e53 E53q pd_3 rfl (by rw [hml]; rfl) (W := 0) (by show 2 * 0 + _ ≤ _; exact Nat.le_of_eq rfl) (by decide) (by decide) (by decide) (by decide) (hb hby at_100) (Ls := #[.val (.int i0), .val (.int i1), .val (.int i2), .val (.int i3), .val (.int (Int32.ofNat W)), .val (.int (Int32.ofNat H)), .val (.int (Int32.ofNat (W + H))), .val (.int (Int32.ofNat A)), .val (.int (Int32.ofNat B)), .val (.ref b1), .val (.int (Int32.ofNat A)), .unset, .unset, .unset, .unset, .unset, .unset, .unset])
      generalize e56 : T56.heap = h56 at q56
      obtain ⟨rfl, N56q, K56q, E56q, F56q0, F56q1, F56q2, F56q3, F56q4, F56q5, F56q6, F56q7, F56q8, F56q9, F56q10, F56q11⟩ := q56
      have N56 := Fr.app N53 N56q
      have Z56 : n0 ≤ h56.size := Nat.le_trans Z53 K56q.1
      refine Go.step (st56) ?_
      show Go _ _ _ _ _ _ _ T56 (mkF m 103 #[.val (.int i0), .val (.int i1), .val (.int i2), .val (.int i3), .val (.int (Int32.ofNat W)), .val (.int (Int32.ofNat H)), .val (.int (Int32.ofNat (W + H))), .val (.int (Int32.ofNat A)), .val (.int (Int32.ofNat B)), .val (.ref b1), .val (.int (Int32.ofNat A)), .unset, .unset, .unset, .unset, .unset, .unset, .unset] [(.int (Int32.ofNat H + ntz (sh (Int32.ofNat (B - H)))))])
      refine Go.step (fun tt kk => XS.istore X56.here hx rfl (hb hby at_103) rfl (l' := #[.val (.int i0), .val (.int i1), .val (.int i2), .val (.int i3), .val (.int (Int32.ofNat W)), .val (.int (Int32.ofNat H)), .val (.int (Int32.ofNat (W + H))), .val (.int (Int32.ofNat A)), .val (.int (Int32.ofNat B)), .val (.ref b1), .val (.int (Int32.ofNat A)), .val (.int (Int32.ofNat H + ntz (sh (Int32.ofNat (B - H))))), .unset, .unset, .unset, .unset, .unset, .unset]) rfl kk) ?_
      show Go _ _ _ _ _ _ _ T56 (mkF m 105 #[.val (.int i0), .val (.int i1), .val (.int i2), .val (.int i3), .val (.int (Int32.ofNat W)), .val (.int (Int32.ofNat H)), .val (.int (Int32.ofNat (W + H))), .val (.int (Int32.ofNat A)), .val (.int (Int32.ofNat B)), .val (.ref b1), .val (.int (Int32.ofNat A)), .val (.int (Int32.ofNat H + ntz (sh (Int32.ofNat (B - H))))), .unset, .unset, .unset, .unset, .unset, .unset] [])
      rw [u1, ← Int32.ofNat_add, show H + (B - H) = B by omega]
      show Go _ _ _ _ _ _ _ T56 (mkF m 105 #[.val (.int i0), .val (.int i1), .val (.int i2), .val (.int i3), .val (.int (Int32.ofNat W)), .val (.int (Int32.ofNat H)), .val (.int (Int32.ofNat (W + H))), .val (.int (Int32.ofNat A)), .val (.int (Int32.ofNat B)), .val (.ref b1), .val (.int (Int32.ofNat A)), .val (.int (Int32.ofNat B)), .unset, .unset, .unset, .unset, .unset, .unset] [])
      have f57 : Fld Z h56 b1 "com/example/gridwright/gridwright/engine/SmallDraft" "waitingColumns" "J" (.long (0 : Int64)) := by
        have q := F56q10
        rwa [u3] at q
      have f58 : Fld Z h56 b1 "com/example/gridwright/gridwright/engine/Draft" "taken" "J" (.long (((0 : Int64) ||| (sh (Int32.ofNat A))) ||| (sh (Int32.ofNat B)))) := by
        have q := F56q2
        rwa [u1, ← Int32.ofNat_add, show H + (B - H) = B by omega] at q
      refine Go.step (fun tt kk => XS.aload X56.here hx rfl (hb hby at_105) rfl rfl kk) ?_
      show Go _ _ _ _ _ _ _ T56 (mkF m 107 #[.val (.int i0), .val (.int i1), .val (.int i2), .val (.int i3), .val (.int (Int32.ofNat W)), .val (.int (Int32.ofNat H)), .val (.int (Int32.ofNat (W + H))), .val (.int (Int32.ofNat A)), .val (.int (Int32.ofNat B)), .val (.ref b1), .val (.int (Int32.ofNat A)), .val (.int (Int32.ofNat B)), .unset, .unset, .unset, .unset, .unset, .unset] [(.ref b1)])
      obtain ⟨v59, T59, L59, X59, q59, st59⟩ := c_virt X56 hx hZ hown (y' := (⟨"com/example/gridwright/gridwright/engine/SmallDraft", "next", "()I"⟩ : MethodName)) (y := (⟨"com/example/gridwright/gridwright/engine/SmallDraft", "next", "()I"⟩ : MethodName)) (C := "com/example/gridwright/gridwright/engine/SmallDraft") (hw _ (List.mem_of_getElem? (i := 101) rfl)) (hw _ (List.mem_of_getElem? (i := 102) rfl)) (notFace_of_selects (args := #[]) (mvT hZ (hw _ (List.mem_of_getElem? (i := 104) rfl)))) (hw _ (List.mem_of_getElem? (i := 104) rfl)) (hw _ (List.mem_of_getElem? (i := 103) rfl)) (hw _ (List.mem_of_getElem? (i := 3) rfl)) (hw _ (List.mem_of_getElem? (i := 105) rfl)) (by decide) (a := b1) (argsL := []) (rest := []) (rmNn l Z a0 hw [] b1 W H (((0 : Int64) ||| (sh (Int32.ofNat A))) ||| (sh (Int32.ofNat B))) (0 : Int32) (.ref b3) x2_0 x2_1 (0 : Int64) (0 : Int64) false h56 n0 Z56 E56q F56q0 F56q1 f58 F56q3 F56q4 F56q5 F56q6 F56q7 F56q8 F56q9 f57 F56q11 gn_b1 rfl rfl) e56 E56q pd_3 rfl (by rw [hml]; rfl) (W := 0) (by show 2 * 0 + _ ≤ _; exact Nat.le_of_eq rfl) (by decide) (by decide) (by decide) (by decide) (hb hby at_107) (Ls := #[.val (.int i0), .val (.int i1), .val (.int i2), .val (.int i3), .val (.int (Int32.ofNat W)), .val (.int (Int32.ofNat H)), .val (.int (Int32.ofNat (W + H))), .val (.int (Int32.ofNat A)), .val (.int (Int32.ofNat B)), .val (.ref b1), .val (.int (Int32.ofNat A)), .val (.int (Int32.ofNat B)), .unset, .unset, .unset, .unset, .unset, .unset])
      generalize e59 : T59.heap = h59 at q59
      obtain ⟨rfl, N59q, K59q, E59q, F59q0, F59q1, F59q2, F59q3, F59q4, F59q5, F59q6, F59q7, F59q8, F59q9, F59q10, F59q11⟩ := q59
      have N59 := Fr.app N56 N59q
      have Z59 : n0 ≤ h59.size := Nat.le_trans Z56 K59q.1
      refine Go.step (st59) ?_
      show Go _ _ _ _ _ _ _ T59 (mkF m 110 #[.val (.int i0), .val (.int i1), .val (.int i2), .val (.int i3), .val (.int (Int32.ofNat W)), .val (.int (Int32.ofNat H)), .val (.int (Int32.ofNat (W + H))), .val (.int (Int32.ofNat A)), .val (.int (Int32.ofNat B)), .val (.ref b1), .val (.int (Int32.ofNat A)), .val (.int (Int32.ofNat B)), .unset, .unset, .unset, .unset, .unset, .unset] [(.int (-1 : Int32))])
      refine Go.step (fun tt kk => XS.istore X59.here hx rfl (hb hby at_110) rfl (l' := #[.val (.int i0), .val (.int i1), .val (.int i2), .val (.int i3), .val (.int (Int32.ofNat W)), .val (.int (Int32.ofNat H)), .val (.int (Int32.ofNat (W + H))), .val (.int (Int32.ofNat A)), .val (.int (Int32.ofNat B)), .val (.ref b1), .val (.int (Int32.ofNat A)), .val (.int (Int32.ofNat B)), .val (.int (-1 : Int32)), .unset, .unset, .unset, .unset, .unset]) rfl kk) ?_
      show Go _ _ _ _ _ _ _ T59 (mkF m 112 #[.val (.int i0), .val (.int i1), .val (.int i2), .val (.int i3), .val (.int (Int32.ofNat W)), .val (.int (Int32.ofNat H)), .val (.int (Int32.ofNat (W + H))), .val (.int (Int32.ofNat A)), .val (.int (Int32.ofNat B)), .val (.ref b1), .val (.int (Int32.ofNat A)), .val (.int (Int32.ofNat B)), .val (.int (-1 : Int32)), .unset, .unset, .unset, .unset, .unset] [])
      refine Go.step (fun tt kk => XS.iload X59.here hx rfl (hb hby at_112) rfl kk) ?_
      show Go _ _ _ _ _ _ _ T59 (mkF m 114 #[.val (.int i0), .val (.int i1), .val (.int i2), .val (.int i3), .val (.int (Int32.ofNat W)), .val (.int (Int32.ofNat H)), .val (.int (Int32.ofNat (W + H))), .val (.int (Int32.ofNat A)), .val (.int (Int32.ofNat B)), .val (.ref b1), .val (.int (Int32.ofNat A)), .val (.int (Int32.ofNat B)), .val (.int (-1 : Int32)), .unset, .unset, .unset, .unset, .unset] [(.int (Int32.ofNat A))])
      refine Go.step (fun tt kk => XS.iload X59.here hx rfl (hb hby at_114) rfl kk) ?_
      show Go _ _ _ _ _ _ _ T59 (mkF m 116 #[.val (.int i0), .val (.int i1), .val (.int i2), .val (.int i3), .val (.int (Int32.ofNat W)), .val (.int (Int32.ofNat H)), .val (.int (Int32.ofNat (W + H))), .val (.int (Int32.ofNat A)), .val (.int (Int32.ofNat B)), .val (.ref b1), .val (.int (Int32.ofNat A)), .val (.int (Int32.ofNat B)), .val (.int (-1 : Int32)), .unset, .unset, .unset, .unset, .unset] [(.int (Int32.ofNat B)), (.int (Int32.ofNat A))])
      obtain ⟨v60, T60, L60, X60, q60, st60⟩ := c_static X59 hx hZ hown (y := (⟨"java/lang/Math", "min", "(II)I"⟩ : MethodName)) (hw _ (List.mem_of_getElem? (i := 117) rfl)) (hw _ (List.mem_of_getElem? (i := 118) rfl)) (hw _ (List.mem_of_getElem? (i := 37) rfl)) (hw _ (List.mem_of_getElem? (i := 119) rfl)) (by decide) (argsL := [(.int (Int32.ofNat A)), (.int (Int32.ofNat B))]) (rest := []) (rmmn l Z a0 hw [] (Int32.ofNat A) (Int32.ofNat B) h59 n0 Z59) e59 pd_0 rfl (by rw [hml]; rfl) (W := 0) (by show 2 * 0 + _ ≤ _; exact Nat.le_of_eq rfl) (by decide) (by decide) (by decide) (by decide) (hb hby at_116) (Ls := #[.val (.int i0), .val (.int i1), .val (.int i2), .val (.int i3), .val (.int (Int32.ofNat W)), .val (.int (Int32.ofNat H)), .val (.int (Int32.ofNat (W + H))), .val (.int (Int32.ofNat A)), .val (.int (Int32.ofNat B)), .val (.ref b1), .val (.int (Int32.ofNat A)), .val (.int (Int32.ofNat B)), .val (.int (-1 : Int32)), .unset, .unset, .unset, .unset, .unset])
      obtain ⟨rfl, rfl, e60⟩ := q60
      have N60 := Fr.app N59 (Fr.nil n0)
      refine Go.step (st60) ?_
      show Go _ _ _ _ _ _ _ T60 (mkF m 119 #[.val (.int i0), .val (.int i1), .val (.int i2), .val (.int i3), .val (.int (Int32.ofNat W)), .val (.int (Int32.ofNat H)), .val (.int (Int32.ofNat (W + H))), .val (.int (Int32.ofNat A)), .val (.int (Int32.ofNat B)), .val (.ref b1), .val (.int (Int32.ofNat A)), .val (.int (Int32.ofNat B)), .val (.int (-1 : Int32)), .unset, .unset, .unset, .unset, .unset] [(.int (mn (Int32.ofNat A) (Int32.ofNat B)))])
      rw [own_min _ _ (by omega) (by omega)]
      show Go _ _ _ _ _ _ _ T60 (mkF m 119 #[.val (.int i0), .val (.int i1), .val (.int i2), .val (.int i3), .val (.int (Int32.ofNat W)), .val (.int (Int32.ofNat H)), .val (.int (Int32.ofNat (W + H))), .val (.int (Int32.ofNat A)), .val (.int (Int32.ofNat B)), .val (.ref b1), .val (.int (Int32.ofNat A)), .val (.int (Int32.ofNat B)), .val (.int (-1 : Int32)), .unset, .unset, .unset, .unset, .unset] [(.int (Int32.ofNat (min A B)))])
      refine Go.step (fun tt kk => XS.istore X60.here hx rfl (hb hby at_119) rfl (l' := #[.val (.int i0), .val (.int i1), .val (.int i2), .val (.int i3), .val (.int (Int32.ofNat W)), .val (.int (Int32.ofNat H)), .val (.int (Int32.ofNat (W + H))), .val (.int (Int32.ofNat A)), .val (.int (Int32.ofNat B)), .val (.ref b1), .val (.int (Int32.ofNat A)), .val (.int (Int32.ofNat B)), .val (.int (-1 : Int32)), .val (.int (Int32.ofNat (min A B))), .unset, .unset, .unset, .unset]) rfl kk) ?_
      show Go _ _ _ _ _ _ _ T60 (mkF m 121 #[.val (.int i0), .val (.int i1), .val (.int i2), .val (.int i3), .val (.int (Int32.ofNat W)), .val (.int (Int32.ofNat H)), .val (.int (Int32.ofNat (W + H))), .val (.int (Int32.ofNat A)), .val (.int (Int32.ofNat B)), .val (.ref b1), .val (.int (Int32.ofNat A)), .val (.int (Int32.ofNat B)), .val (.int (-1 : Int32)), .val (.int (Int32.ofNat (min A B))), .unset, .unset, .unset, .unset] [])
      refine Go.step (fun tt kk => XS.iload X60.here hx rfl (hb hby at_121) rfl kk) ?_
      show Go _ _ _ _ _ _ _ T60 (mkF m 123 #[.val (.int i0), .val (.int i1), .val (.int i2), .val (.int i3), .val (.int (Int32.ofNat W)), .val (.int (Int32.ofNat H)), .val (.int (Int32.ofNat (W + H))), .val (.int (Int32.ofNat A)), .val (.int (Int32.ofNat B)), .val (.ref b1), .val (.int (Int32.ofNat A)), .val (.int (Int32.ofNat B)), .val (.int (-1 : Int32)), .val (.int (Int32.ofNat (min A B))), .unset, .unset, .unset, .unset] [(.int (Int32.ofNat A))])
      refine Go.step (fun tt kk => XS.iload X60.here hx rfl (hb hby at_123) rfl kk) ?_
      show Go _ _ _ _ _ _ _ T60 (mkF m 125 #[.val (.int i0), .val (.int i1), .val (.int i2), .val (.int i3), .val (.int (Int32.ofNat W)), .val (.int (Int32.ofNat H)), .val (.int (Int32.ofNat (W + H))), .val (.int (Int32.ofNat A)), .val (.int (Int32.ofNat B)), .val (.ref b1), .val (.int (Int32.ofNat A)), .val (.int (Int32.ofNat B)), .val (.int (-1 : Int32)), .val (.int (Int32.ofNat (min A B))), .unset, .unset, .unset, .unset] [(.int (Int32.ofNat B)), (.int (Int32.ofNat A))])
      obtain ⟨v61, T61, L61, X61, q61, st61⟩ := c_static X60 hx hZ hown (y := (⟨"java/lang/Math", "max", "(II)I"⟩ : MethodName)) (hw _ (List.mem_of_getElem? (i := 120) rfl)) (hw _ (List.mem_of_getElem? (i := 46) rfl)) (hw _ (List.mem_of_getElem? (i := 37) rfl)) (hw _ (List.mem_of_getElem? (i := 47) rfl)) (by decide) (argsL := [(.int (Int32.ofNat A)), (.int (Int32.ofNat B))]) (rest := []) (rmmx l Z a0 hw [] (Int32.ofNat A) (Int32.ofNat B) h59 n0 Z59) e60 pd_0 rfl (by rw [hml]; rfl) (W := 0) (by show 2 * 0 + _ ≤ _; exact Nat.le_of_eq rfl) (by decide) (by decide) (by decide) (by decide) (hb hby at_125) (Ls := #[.val (.int i0), .val (.int i1), .val (.int i2), .val (.int i3), .val (.int (Int32.ofNat W)), .val (.int (Int32.ofNat H)), .val (.int (Int32.ofNat (W + H))), .val (.int (Int32.ofNat A)), .val (.int (Int32.ofNat B)), .val (.ref b1), .val (.int (Int32.ofNat A)), .val (.int (Int32.ofNat B)), .val (.int (-1 : Int32)), .val (.int (Int32.ofNat (min A B))), .unset, .unset, .unset, .unset])
      obtain ⟨rfl, rfl, e61⟩ := q61
      have N61 := Fr.app N60 (Fr.nil n0)
      refine Go.step (st61) ?_
      show Go _ _ _ _ _ _ _ T61 (mkF m 128 #[.val (.int i0), .val (.int i1), .val (.int i2), .val (.int i3), .val (.int (Int32.ofNat W)), .val (.int (Int32.ofNat H)), .val (.int (Int32.ofNat (W + H))), .val (.int (Int32.ofNat A)), .val (.int (Int32.ofNat B)), .val (.ref b1), .val (.int (Int32.ofNat A)), .val (.int (Int32.ofNat B)), .val (.int (-1 : Int32)), .val (.int (Int32.ofNat (min A B))), .unset, .unset, .unset, .unset] [(.int (mx (Int32.ofNat A) (Int32.ofNat B)))])
      rw [own_max _ _ (by omega) (by omega)]
      show Go _ _ _ _ _ _ _ T61 (mkF m 128 #[.val (.int i0), .val (.int i1), .val (.int i2), .val (.int i3), .val (.int (Int32.ofNat W)), .val (.int (Int32.ofNat H)), .val (.int (Int32.ofNat (W + H))), .val (.int (Int32.ofNat A)), .val (.int (Int32.ofNat B)), .val (.ref b1), .val (.int (Int32.ofNat A)), .val (.int (Int32.ofNat B)), .val (.int (-1 : Int32)), .val (.int (Int32.ofNat (min A B))), .unset, .unset, .unset, .unset] [(.int (Int32.ofNat (max A B)))])
      refine Go.step (fun tt kk => XS.istore X61.here hx rfl (hb hby at_128) rfl (l' := #[.val (.int i0), .val (.int i1), .val (.int i2), .val (.int i3), .val (.int (Int32.ofNat W)), .val (.int (Int32.ofNat H)), .val (.int (Int32.ofNat (W + H))), .val (.int (Int32.ofNat A)), .val (.int (Int32.ofNat B)), .val (.ref b1), .val (.int (Int32.ofNat A)), .val (.int (Int32.ofNat B)), .val (.int (-1 : Int32)), .val (.int (Int32.ofNat (min A B))), .val (.int (Int32.ofNat (max A B))), .unset, .unset, .unset]) rfl kk) ?_
      show Go _ _ _ _ _ _ _ T61 (mkF m 130 #[.val (.int i0), .val (.int i1), .val (.int i2), .val (.int i3), .val (.int (Int32.ofNat W)), .val (.int (Int32.ofNat H)), .val (.int (Int32.ofNat (W + H))), .val (.int (Int32.ofNat A)), .val (.int (Int32.ofNat B)), .val (.ref b1), .val (.int (Int32.ofNat A)), .val (.int (Int32.ofNat B)), .val (.int (-1 : Int32)), .val (.int (Int32.ofNat (min A B))), .val (.int (Int32.ofNat (max A B))), .unset, .unset, .unset] [])
      refine Go.step (fun tt kk => XS.iload X61.here hx rfl (hb hby at_130) rfl kk) ?_
      show Go _ _ _ _ _ _ _ T61 (mkF m 132 #[.val (.int i0), .val (.int i1), .val (.int i2), .val (.int i3), .val (.int (Int32.ofNat W)), .val (.int (Int32.ofNat H)), .val (.int (Int32.ofNat (W + H))), .val (.int (Int32.ofNat A)), .val (.int (Int32.ofNat B)), .val (.ref b1), .val (.int (Int32.ofNat A)), .val (.int (Int32.ofNat B)), .val (.int (-1 : Int32)), .val (.int (Int32.ofNat (min A B))), .val (.int (Int32.ofNat (max A B))), .unset, .unset, .unset] [(.int (Int32.ofNat (max A B)))])
      refine Go.step (fun tt kk => XS.iload X61.here hx rfl (hb hby at_132) rfl kk) ?_
      show Go _ _ _ _ _ _ _ T61 (mkF m 134 #[.val (.int i0), .val (.int i1), .val (.int i2), .val (.int i3), .val (.int (Int32.ofNat W)), .val (.int (Int32.ofNat H)), .val (.int (Int32.ofNat (W + H))), .val (.int (Int32.ofNat A)), .val (.int (Int32.ofNat B)), .val (.ref b1), .val (.int (Int32.ofNat A)), .val (.int (Int32.ofNat B)), .val (.int (-1 : Int32)), .val (.int (Int32.ofNat (min A B))), .val (.int (Int32.ofNat (max A B))), .unset, .unset, .unset] [(.int (Int32.ofNat (min A B))), (.int (Int32.ofNat (max A B)))])
      refine Go.step (fun tt kk => XS.icmpNo X61.here hx rfl (hb hby at_134) rfl (feq (mt (own_eq _ _ (by omega) (by omega)).mp (by omega))).1 kk) ?_
      show Go _ _ _ _ _ _ _ T61 (mkF m 137 #[.val (.int i0), .val (.int i1), .val (.int i2), .val (.int i3), .val (.int (Int32.ofNat W)), .val (.int (Int32.ofNat H)), .val (.int (Int32.ofNat (W + H))), .val (.int (Int32.ofNat A)), .val (.int (Int32.ofNat B)), .val (.ref b1), .val (.int (Int32.ofNat A)), .val (.int (Int32.ofNat B)), .val (.int (-1 : Int32)), .val (.int (Int32.ofNat (min A B))), .val (.int (Int32.ofNat (max A B))), .unset, .unset, .unset] [])
      refine Go.step (fun tt kk => XS.iload X61.here hx rfl (hb hby at_137) rfl kk) ?_
      show Go _ _ _ _ _ _ _ T61 (mkF m 139 #[.val (.int i0), .val (.int i1), .val (.int i2), .val (.int i3), .val (.int (Int32.ofNat W)), .val (.int (Int32.ofNat H)), .val (.int (Int32.ofNat (W + H))), .val (.int (Int32.ofNat A)), .val (.int (Int32.ofNat B)), .val (.ref b1), .val (.int (Int32.ofNat A)), .val (.int (Int32.ofNat B)), .val (.int (-1 : Int32)), .val (.int (Int32.ofNat (min A B))), .val (.int (Int32.ofNat (max A B))), .unset, .unset, .unset] [(.int (Int32.ofNat (max A B)))])
      refine Go.step (fun tt kk => XS.goto X61.here hx rfl (pc0 := 139) (pc' := 143) rfl (hb hby at_139) (by decide) (by decide) kk) ?_
      show Go _ _ _ _ _ _ _ T61 (mkF m 143 #[.val (.int i0), .val (.int i1), .val (.int i2), .val (.int i3), .val (.int (Int32.ofNat W)), .val (.int (Int32.ofNat H)), .val (.int (Int32.ofNat (W + H))), .val (.int (Int32.ofNat A)), .val (.int (Int32.ofNat B)), .val (.ref b1), .val (.int (Int32.ofNat A)), .val (.int (Int32.ofNat B)), .val (.int (-1 : Int32)), .val (.int (Int32.ofNat (min A B))), .val (.int (Int32.ofNat (max A B))), .unset, .unset, .unset] [(.int (Int32.ofNat (max A B)))])
      refine Go.step (fun tt kk => XS.istore X61.here hx rfl (hb hby at_143) rfl (l' := #[.val (.int i0), .val (.int i1), .val (.int i2), .val (.int i3), .val (.int (Int32.ofNat W)), .val (.int (Int32.ofNat H)), .val (.int (Int32.ofNat (W + H))), .val (.int (Int32.ofNat A)), .val (.int (Int32.ofNat B)), .val (.ref b1), .val (.int (Int32.ofNat A)), .val (.int (Int32.ofNat B)), .val (.int (-1 : Int32)), .val (.int (Int32.ofNat (min A B))), .val (.int (Int32.ofNat (max A B))), .val (.int (Int32.ofNat (max A B))), .unset, .unset]) rfl kk) ?_
      show Go _ _ _ _ _ _ _ T61 (mkF m 145 #[.val (.int i0), .val (.int i1), .val (.int i2), .val (.int i3), .val (.int (Int32.ofNat W)), .val (.int (Int32.ofNat H)), .val (.int (Int32.ofNat (W + H))), .val (.int (Int32.ofNat A)), .val (.int (Int32.ofNat B)), .val (.ref b1), .val (.int (Int32.ofNat A)), .val (.int (Int32.ofNat B)), .val (.int (-1 : Int32)), .val (.int (Int32.ofNat (min A B))), .val (.int (Int32.ofNat (max A B))), .val (.int (Int32.ofNat (max A B))), .unset, .unset] [])
      refine Go.step (fun tt kk => XS.lconst X61.here hx rfl (hb hby at_145) kk) ?_
      show Go _ _ _ _ _ _ _ T61 (mkF m 146 #[.val (.int i0), .val (.int i1), .val (.int i2), .val (.int i3), .val (.int (Int32.ofNat W)), .val (.int (Int32.ofNat H)), .val (.int (Int32.ofNat (W + H))), .val (.int (Int32.ofNat A)), .val (.int (Int32.ofNat B)), .val (.ref b1), .val (.int (Int32.ofNat A)), .val (.int (Int32.ofNat B)), .val (.int (-1 : Int32)), .val (.int (Int32.ofNat (min A B))), .val (.int (Int32.ofNat (max A B))), .val (.int (Int32.ofNat (max A B))), .unset, .unset] [(.long (1 : Int64))])
      refine Go.step (fun tt kk => XS.iload X61.here hx rfl (hb hby at_146) rfl kk) ?_
      show Go _ _ _ _ _ _ _ T61 (mkF m 148 #[.val (.int i0), .val (.int i1), .val (.int i2), .val (.int i3), .val (.int (Int32.ofNat W)), .val (.int (Int32.ofNat H)), .val (.int (Int32.ofNat (W + H))), .val (.int (Int32.ofNat A)), .val (.int (Int32.ofNat B)), .val (.ref b1), .val (.int (Int32.ofNat A)), .val (.int (Int32.ofNat B)), .val (.int (-1 : Int32)), .val (.int (Int32.ofNat (min A B))), .val (.int (Int32.ofNat (max A B))), .val (.int (Int32.ofNat (max A B))), .unset, .unset] [(.int (Int32.ofNat A)), (.long (1 : Int64))])
      refine Go.step (fun tt kk => XS.lshl X61.here hx rfl (hb hby at_148) rfl kk) ?_
      show Go _ _ _ _ _ _ _ T61 (mkF m 149 #[.val (.int i0), .val (.int i1), .val (.int i2), .val (.int i3), .val (.int (Int32.ofNat W)), .val (.int (Int32.ofNat H)), .val (.int (Int32.ofNat (W + H))), .val (.int (Int32.ofNat A)), .val (.int (Int32.ofNat B)), .val (.ref b1), .val (.int (Int32.ofNat A)), .val (.int (Int32.ofNat B)), .val (.int (-1 : Int32)), .val (.int (Int32.ofNat (min A B))), .val (.int (Int32.ofNat (max A B))), .val (.int (Int32.ofNat (max A B))), .unset, .unset] [(.long ((1 : Int64) <<< ((Int32.ofNat A) &&& 0x3f).toInt64))])
      refine Go.step (fun tt kk => XS.lconst X61.here hx rfl (hb hby at_149) kk) ?_
      show Go _ _ _ _ _ _ _ T61 (mkF m 150 #[.val (.int i0), .val (.int i1), .val (.int i2), .val (.int i3), .val (.int (Int32.ofNat W)), .val (.int (Int32.ofNat H)), .val (.int (Int32.ofNat (W + H))), .val (.int (Int32.ofNat A)), .val (.int (Int32.ofNat B)), .val (.ref b1), .val (.int (Int32.ofNat A)), .val (.int (Int32.ofNat B)), .val (.int (-1 : Int32)), .val (.int (Int32.ofNat (min A B))), .val (.int (Int32.ofNat (max A B))), .val (.int (Int32.ofNat (max A B))), .unset, .unset] [(.long (1 : Int64)), (.long ((1 : Int64) <<< ((Int32.ofNat A) &&& 0x3f).toInt64))])
      refine Go.step (fun tt kk => XS.iload X61.here hx rfl (hb hby at_150) rfl kk) ?_
      show Go _ _ _ _ _ _ _ T61 (mkF m 152 #[.val (.int i0), .val (.int i1), .val (.int i2), .val (.int i3), .val (.int (Int32.ofNat W)), .val (.int (Int32.ofNat H)), .val (.int (Int32.ofNat (W + H))), .val (.int (Int32.ofNat A)), .val (.int (Int32.ofNat B)), .val (.ref b1), .val (.int (Int32.ofNat A)), .val (.int (Int32.ofNat B)), .val (.int (-1 : Int32)), .val (.int (Int32.ofNat (min A B))), .val (.int (Int32.ofNat (max A B))), .val (.int (Int32.ofNat (max A B))), .unset, .unset] [(.int (Int32.ofNat B)), (.long (1 : Int64)), (.long ((1 : Int64) <<< ((Int32.ofNat A) &&& 0x3f).toInt64))])
      refine Go.step (fun tt kk => XS.lshl X61.here hx rfl (hb hby at_152) rfl kk) ?_
      show Go _ _ _ _ _ _ _ T61 (mkF m 153 #[.val (.int i0), .val (.int i1), .val (.int i2), .val (.int i3), .val (.int (Int32.ofNat W)), .val (.int (Int32.ofNat H)), .val (.int (Int32.ofNat (W + H))), .val (.int (Int32.ofNat A)), .val (.int (Int32.ofNat B)), .val (.ref b1), .val (.int (Int32.ofNat A)), .val (.int (Int32.ofNat B)), .val (.int (-1 : Int32)), .val (.int (Int32.ofNat (min A B))), .val (.int (Int32.ofNat (max A B))), .val (.int (Int32.ofNat (max A B))), .unset, .unset] [(.long ((1 : Int64) <<< ((Int32.ofNat B) &&& 0x3f).toInt64)), (.long ((1 : Int64) <<< ((Int32.ofNat A) &&& 0x3f).toInt64))])
      refine Go.step (fun tt kk => XS.lor X61.here hx rfl (hb hby at_153) rfl kk) ?_
      show Go _ _ _ _ _ _ _ T61 (mkF m 154 #[.val (.int i0), .val (.int i1), .val (.int i2), .val (.int i3), .val (.int (Int32.ofNat W)), .val (.int (Int32.ofNat H)), .val (.int (Int32.ofNat (W + H))), .val (.int (Int32.ofNat A)), .val (.int (Int32.ofNat B)), .val (.ref b1), .val (.int (Int32.ofNat A)), .val (.int (Int32.ofNat B)), .val (.int (-1 : Int32)), .val (.int (Int32.ofNat (min A B))), .val (.int (Int32.ofNat (max A B))), .val (.int (Int32.ofNat (max A B))), .unset, .unset] [(.long (((1 : Int64) <<< ((Int32.ofNat A) &&& 0x3f).toInt64) ||| ((1 : Int64) <<< ((Int32.ofNat B) &&& 0x3f).toInt64)))])
      refine Go.step (fun tt kk => XS.lstore X61.here hx rfl (hb hby at_154) rfl (l' := #[.val (.int i0), .val (.int i1), .val (.int i2), .val (.int i3), .val (.int (Int32.ofNat W)), .val (.int (Int32.ofNat H)), .val (.int (Int32.ofNat (W + H))), .val (.int (Int32.ofNat A)), .val (.int (Int32.ofNat B)), .val (.ref b1), .val (.int (Int32.ofNat A)), .val (.int (Int32.ofNat B)), .val (.int (-1 : Int32)), .val (.int (Int32.ofNat (min A B))), .val (.int (Int32.ofNat (max A B))), .val (.int (Int32.ofNat (max A B))), .val (.long (((1 : Int64) <<< ((Int32.ofNat A) &&& 0x3f).toInt64) ||| ((1 : Int64) <<< ((Int32.ofNat B) &&& 0x3f).toInt64))), .second]) rfl kk) ?_
      show Go _ _ _ _ _ _ _ T61 (mkF m 156 #[.val (.int i0), .val (.int i1), .val (.int i2), .val (.int i3), .val (.int (Int32.ofNat W)), .val (.int (Int32.ofNat H)), .val (.int (Int32.ofNat (W + H))), .val (.int (Int32.ofNat A)), .val (.int (Int32.ofNat B)), .val (.ref b1), .val (.int (Int32.ofNat A)), .val (.int (Int32.ofNat B)), .val (.int (-1 : Int32)), .val (.int (Int32.ofNat (min A B))), .val (.int (Int32.ofNat (max A B))), .val (.int (Int32.ofNat (max A B))), .val (.long (((1 : Int64) <<< ((Int32.ofNat A) &&& 0x3f).toInt64) ||| ((1 : Int64) <<< ((Int32.ofNat B) &&& 0x3f).toInt64))), .second] [])
      refine Go.step (fun tt kk => XS.iload X61.here hx rfl (hb hby at_156) rfl kk) ?_
      show Go _ _ _ _ _ _ _ T61 (mkF m 158 #[.val (.int i0), .val (.int i1), .val (.int i2), .val (.int i3), .val (.int (Int32.ofNat W)), .val (.int (Int32.ofNat H)), .val (.int (Int32.ofNat (W + H))), .val (.int (Int32.ofNat A)), .val (.int (Int32.ofNat B)), .val (.ref b1), .val (.int (Int32.ofNat A)), .val (.int (Int32.ofNat B)), .val (.int (-1 : Int32)), .val (.int (Int32.ofNat (min A B))), .val (.int (Int32.ofNat (max A B))), .val (.int (Int32.ofNat (max A B))), .val (.long (((1 : Int64) <<< ((Int32.ofNat A) &&& 0x3f).toInt64) ||| ((1 : Int64) <<< ((Int32.ofNat B) &&& 0x3f).toInt64))), .second] [(.int (Int32.ofNat A))])
      refine Go.step (fun tt kk => XS.iload X61.here hx rfl (hb hby at_158) rfl kk) ?_
      show Go _ _ _ _ _ _ _ T61 (mkF m 160 #[.val (.int i0), .val (.int i1), .val (.int i2), .val (.int i3), .val (.int (Int32.ofNat W)), .val (.int (Int32.ofNat H)), .val (.int (Int32.ofNat (W + H))), .val (.int (Int32.ofNat A)), .val (.int (Int32.ofNat B)), .val (.ref b1), .val (.int (Int32.ofNat A)), .val (.int (Int32.ofNat B)), .val (.int (-1 : Int32)), .val (.int (Int32.ofNat (min A B))), .val (.int (Int32.ofNat (max A B))), .val (.int (Int32.ofNat (max A B))), .val (.long (((1 : Int64) <<< ((Int32.ofNat A) &&& 0x3f).toInt64) ||| ((1 : Int64) <<< ((Int32.ofNat B) &&& 0x3f).toInt64))), .second] [(.int (Int32.ofNat (min A B))), (.int (Int32.ofNat A))])
      refine Go.step (fun tt kk => XS.icmpNo X61.here hx rfl (hb hby at_160) rfl (teq ((own_eq _ _ (by omega) (by omega)).mpr (by omega))).2 kk) ?_
      show Go _ _ _ _ _ _ _ T61 (mkF m 163 #[.val (.int i0), .val (.int i1), .val (.int i2), .val (.int i3), .val (.int (Int32.ofNat W)), .val (.int (Int32.ofNat H)), .val (.int (Int32.ofNat (W + H))), .val (.int (Int32.ofNat A)), .val (.int (Int32.ofNat B)), .val (.ref b1), .val (.int (Int32.ofNat A)), .val (.int (Int32.ofNat B)), .val (.int (-1 : Int32)), .val (.int (Int32.ofNat (min A B))), .val (.int (Int32.ofNat (max A B))), .val (.int (Int32.ofNat (max A B))), .val (.long (((1 : Int64) <<< ((Int32.ofNat A) &&& 0x3f).toInt64) ||| ((1 : Int64) <<< ((Int32.ofNat B) &&& 0x3f).toInt64))), .second] [])
      refine Go.step (fun tt kk => XS.iload X61.here hx rfl (hb hby at_163) rfl kk) ?_
      show Go _ _ _ _ _ _ _ T61 (mkF m 165 #[.val (.int i0), .val (.int i1), .val (.int i2), .val (.int i3), .val (.int (Int32.ofNat W)), .val (.int (Int32.ofNat H)), .val (.int (Int32.ofNat (W + H))), .val (.int (Int32.ofNat A)), .val (.int (Int32.ofNat B)), .val (.ref b1), .val (.int (Int32.ofNat A)), .val (.int (Int32.ofNat B)), .val (.int (-1 : Int32)), .val (.int (Int32.ofNat (min A B))), .val (.int (Int32.ofNat (max A B))), .val (.int (Int32.ofNat (max A B))), .val (.long (((1 : Int64) <<< ((Int32.ofNat A) &&& 0x3f).toInt64) ||| ((1 : Int64) <<< ((Int32.ofNat B) &&& 0x3f).toInt64))), .second] [(.int (Int32.ofNat B))])
      refine Go.step (fun tt kk => XS.iload X61.here hx rfl (hb hby at_165) rfl kk) ?_
      show Go _ _ _ _ _ _ _ T61 (mkF m 167 #[.val (.int i0), .val (.int i1), .val (.int i2), .val (.int i3), .val (.int (Int32.ofNat W)), .val (.int (Int32.ofNat H)), .val (.int (Int32.ofNat (W + H))), .val (.int (Int32.ofNat A)), .val (.int (Int32.ofNat B)), .val (.ref b1), .val (.int (Int32.ofNat A)), .val (.int (Int32.ofNat B)), .val (.int (-1 : Int32)), .val (.int (Int32.ofNat (min A B))), .val (.int (Int32.ofNat (max A B))), .val (.int (Int32.ofNat (max A B))), .val (.long (((1 : Int64) <<< ((Int32.ofNat A) &&& 0x3f).toInt64) ||| ((1 : Int64) <<< ((Int32.ofNat B) &&& 0x3f).toInt64))), .second] [(.int (Int32.ofNat (max A B))), (.int (Int32.ofNat B))])
      refine Go.step (fun tt kk => XS.icmpNo X61.here hx rfl (hb hby at_167) rfl (teq ((own_eq _ _ (by omega) (by omega)).mpr (by omega))).2 kk) ?_
      show Go _ _ _ _ _ _ _ T61 (mkF m 170 #[.val (.int i0), .val (.int i1), .val (.int i2), .val (.int i3), .val (.int (Int32.ofNat W)), .val (.int (Int32.ofNat H)), .val (.int (Int32.ofNat (W + H))), .val (.int (Int32.ofNat A)), .val (.int (Int32.ofNat B)), .val (.ref b1), .val (.int (Int32.ofNat A)), .val (.int (Int32.ofNat B)), .val (.int (-1 : Int32)), .val (.int (Int32.ofNat (min A B))), .val (.int (Int32.ofNat (max A B))), .val (.int (Int32.ofNat (max A B))), .val (.long (((1 : Int64) <<< ((Int32.ofNat A) &&& 0x3f).toInt64) ||| ((1 : Int64) <<< ((Int32.ofNat B) &&& 0x3f).toInt64))), .second] [])
      refine Go.step (fun tt kk => XS.iload X61.here hx rfl (hb hby at_170) rfl kk) ?_
      show Go _ _ _ _ _ _ _ T61 (mkF m 172 #[.val (.int i0), .val (.int i1), .val (.int i2), .val (.int i3), .val (.int (Int32.ofNat W)), .val (.int (Int32.ofNat H)), .val (.int (Int32.ofNat (W + H))), .val (.int (Int32.ofNat A)), .val (.int (Int32.ofNat B)), .val (.ref b1), .val (.int (Int32.ofNat A)), .val (.int (Int32.ofNat B)), .val (.int (-1 : Int32)), .val (.int (Int32.ofNat (min A B))), .val (.int (Int32.ofNat (max A B))), .val (.int (Int32.ofNat (max A B))), .val (.long (((1 : Int64) <<< ((Int32.ofNat A) &&& 0x3f).toInt64) ||| ((1 : Int64) <<< ((Int32.ofNat B) &&& 0x3f).toInt64))), .second] [(.int (-1 : Int32))])
      refine Go.step (fun tt kk => XS.iconst X61.here hx rfl (hb hby at_172) kk) ?_
      show Go _ _ _ _ _ _ _ T61 (mkF m 173 #[.val (.int i0), .val (.int i1), .val (.int i2), .val (.int i3), .val (.int (Int32.ofNat W)), .val (.int (Int32.ofNat H)), .val (.int (Int32.ofNat (W + H))), .val (.int (Int32.ofNat A)), .val (.int (Int32.ofNat B)), .val (.ref b1), .val (.int (Int32.ofNat A)), .val (.int (Int32.ofNat B)), .val (.int (-1 : Int32)), .val (.int (Int32.ofNat (min A B))), .val (.int (Int32.ofNat (max A B))), .val (.int (Int32.ofNat (max A B))), .val (.long (((1 : Int64) <<< ((Int32.ofNat A) &&& 0x3f).toInt64) ||| ((1 : Int64) <<< ((Int32.ofNat B) &&& 0x3f).toInt64))), .second] [(.int (-1 : Int32)), (.int (-1 : Int32))])
      refine Go.step (fun tt kk => XS.icmpNo X61.here hx rfl (hb hby at_173) rfl (teq rfl).2 kk) ?_
      show Go _ _ _ _ _ _ _ T61 (mkF m 176 #[.val (.int i0), .val (.int i1), .val (.int i2), .val (.int i3), .val (.int (Int32.ofNat W)), .val (.int (Int32.ofNat H)), .val (.int (Int32.ofNat (W + H))), .val (.int (Int32.ofNat A)), .val (.int (Int32.ofNat B)), .val (.ref b1), .val (.int (Int32.ofNat A)), .val (.int (Int32.ofNat B)), .val (.int (-1 : Int32)), .val (.int (Int32.ofNat (min A B))), .val (.int (Int32.ofNat (max A B))), .val (.int (Int32.ofNat (max A B))), .val (.long (((1 : Int64) <<< ((Int32.ofNat A) &&& 0x3f).toInt64) ||| ((1 : Int64) <<< ((Int32.ofNat B) &&& 0x3f).toInt64))), .second] [])
      refine Go.step (fun tt kk => XS.aload X61.here hx rfl (hb hby at_176) rfl rfl kk) ?_
      show Go _ _ _ _ _ _ _ T61 (mkF m 178 #[.val (.int i0), .val (.int i1), .val (.int i2), .val (.int i3), .val (.int (Int32.ofNat W)), .val (.int (Int32.ofNat H)), .val (.int (Int32.ofNat (W + H))), .val (.int (Int32.ofNat A)), .val (.int (Int32.ofNat B)), .val (.ref b1), .val (.int (Int32.ofNat A)), .val (.int (Int32.ofNat B)), .val (.int (-1 : Int32)), .val (.int (Int32.ofNat (min A B))), .val (.int (Int32.ofNat (max A B))), .val (.int (Int32.ofNat (max A B))), .val (.long (((1 : Int64) <<< ((Int32.ofNat A) &&& 0x3f).toInt64) ||| ((1 : Int64) <<< ((Int32.ofNat B) &&& 0x3f).toInt64))), .second] [(.ref b1)])
      obtain ⟨v62, T62, L62, X62, q62, st62⟩ := c_virtUp X61 hx hZ hown (y' := (⟨"com/example/gridwright/gridwright/engine/SmallDraft", "taken", "()J"⟩ : MethodName)) (y := (⟨"com/example/gridwright/gridwright/engine/Draft", "taken", "()J"⟩ : MethodName)) (C := "com/example/gridwright/gridwright/engine/SmallDraft") (owner := "com/example/gridwright/gridwright/engine/Draft") (hw _ (List.mem_of_getElem? (i := 121) rfl)) (hw _ (List.mem_of_getElem? (i := 122) rfl)) (hw _ (List.mem_of_getElem? (i := 123) rfl)) (hw _ (List.mem_of_getElem? (i := 125) rfl)) (hw _ (List.mem_of_getElem? (i := 124) rfl)) (hw _ (List.mem_of_getElem? (i := 10) rfl)) (hw _ (List.mem_of_getElem? (i := 126) rfl)) (by decide) (a := b1) (argsL := []) (rest := []) (rmTk l Z a0 hw [] b1 (((0 : Int64) ||| (sh (Int32.ofNat A))) ||| (sh (Int32.ofNat B))) h59 n0 Z59 F59q2) e61 E59q pd_7 rfl (by rw [hml]; rfl) (W := 0) (by show 2 * 0 + _ ≤ _; exact Nat.le_of_eq rfl) (by decide) (by decide) (by decide) (by decide) (hb hby at_178) (Ls := #[.val (.int i0), .val (.int i1), .val (.int i2), .val (.int i3), .val (.int (Int32.ofNat W)), .val (.int (Int32.ofNat H)), .val (.int (Int32.ofNat (W + H))), .val (.int (Int32.ofNat A)), .val (.int (Int32.ofNat B)), .val (.ref b1), .val (.int (Int32.ofNat A)), .val (.int (Int32.ofNat B)), .val (.int (-1 : Int32)), .val (.int (Int32.ofNat (min A B))), .val (.int (Int32.ofNat (max A B))), .val (.int (Int32.ofNat (max A B))), .val (.long (((1 : Int64) <<< ((Int32.ofNat A) &&& 0x3f).toInt64) ||| ((1 : Int64) <<< ((Int32.ofNat B) &&& 0x3f).toInt64))), .second])
      obtain ⟨rfl, rfl, e62⟩ := q62
      have N62 := Fr.app N61 (Fr.nil n0)
      refine Go.step (st62) ?_
      show Go _ _ _ _ _ _ _ T62 (mkF m 181 #[.val (.int i0), .val (.int i1), .val (.int i2), .val (.int i3), .val (.int (Int32.ofNat W)), .val (.int (Int32.ofNat H)), .val (.int (Int32.ofNat (W + H))), .val (.int (Int32.ofNat A)), .val (.int (Int32.ofNat B)), .val (.ref b1), .val (.int (Int32.ofNat A)), .val (.int (Int32.ofNat B)), .val (.int (-1 : Int32)), .val (.int (Int32.ofNat (min A B))), .val (.int (Int32.ofNat (max A B))), .val (.int (Int32.ofNat (max A B))), .val (.long (((1 : Int64) <<< ((Int32.ofNat A) &&& 0x3f).toInt64) ||| ((1 : Int64) <<< ((Int32.ofNat B) &&& 0x3f).toInt64))), .second] [(.long (((0 : Int64) ||| (sh (Int32.ofNat A))) ||| (sh (Int32.ofNat B))))])
      refine Go.step (fun tt kk => XS.lload X62.here hx rfl (hb hby at_181) rfl kk) ?_
      show Go _ _ _ _ _ _ _ T62 (mkF m 183 #[.val (.int i0), .val (.int i1), .val (.int i2), .val (.int i3), .val (.int (Int32.ofNat W)), .val (.int (Int32.ofNat H)), .val (.int (Int32.ofNat (W + H))), .val (.int (Int32.ofNat A)), .val (.int (Int32.ofNat B)), .val (.ref b1), .val (.int (Int32.ofNat A)), .val (.int (Int32.ofNat B)), .val (.int (-1 : Int32)), .val (.int (Int32.ofNat (min A B))), .val (.int (Int32.ofNat (max A B))), .val (.int (Int32.ofNat (max A B))), .val (.long (((1 : Int64) <<< ((Int32.ofNat A) &&& 0x3f).toInt64) ||| ((1 : Int64) <<< ((Int32.ofNat B) &&& 0x3f).toInt64))), .second] [(.long (((1 : Int64) <<< ((Int32.ofNat A) &&& 0x3f).toInt64) ||| ((1 : Int64) <<< ((Int32.ofNat B) &&& 0x3f).toInt64))), (.long (((0 : Int64) ||| (sh (Int32.ofNat A))) ||| (sh (Int32.ofNat B))))])
      refine Go.step (fun tt kk => XS.lcmp X62.here hx rfl (hb hby at_183) rfl kk) ?_
      show Go _ _ _ _ _ _ _ T62 (mkF m 184 #[.val (.int i0), .val (.int i1), .val (.int i2), .val (.int i3), .val (.int (Int32.ofNat W)), .val (.int (Int32.ofNat H)), .val (.int (Int32.ofNat (W + H))), .val (.int (Int32.ofNat A)), .val (.int (Int32.ofNat B)), .val (.ref b1), .val (.int (Int32.ofNat A)), .val (.int (Int32.ofNat B)), .val (.int (-1 : Int32)), .val (.int (Int32.ofNat (min A B))), .val (.int (Int32.ofNat (max A B))), .val (.int (Int32.ofNat (max A B))), .val (.long (((1 : Int64) <<< ((Int32.ofNat A) &&& 0x3f).toInt64) ||| ((1 : Int64) <<< ((Int32.ofNat B) &&& 0x3f).toInt64))), .second] [(.int (lcmpW (((0 : Int64) ||| (sh (Int32.ofNat A))) ||| (sh (Int32.ofNat B))) (((1 : Int64) <<< ((Int32.ofNat A) &&& 0x3f).toInt64) ||| ((1 : Int64) <<< ((Int32.ofNat B) &&& 0x3f).toInt64))))])
      refine Go.step (fun tt kk => XS.ifNo X62.here hx rfl (hb hby at_184) rfl ((if0 _ _).trans (teq ((lw_eq _ _).mpr (by rw [own_or0]))).2) kk) ?_
      show Go _ _ _ _ _ _ _ T62 (mkF m 187 #[.val (.int i0), .val (.int i1), .val (.int i2), .val (.int i3), .val (.int (Int32.ofNat W)), .val (.int (Int32.ofNat H)), .val (.int (Int32.ofNat (W + H))), .val (.int (Int32.ofNat A)), .val (.int (Int32.ofNat B)), .val (.ref b1), .val (.int (Int32.ofNat A)), .val (.int (Int32.ofNat B)), .val (.int (-1 : Int32)), .val (.int (Int32.ofNat (min A B))), .val (.int (Int32.ofNat (max A B))), .val (.int (Int32.ofNat (max A B))), .val (.long (((1 : Int64) <<< ((Int32.ofNat A) &&& 0x3f).toInt64) ||| ((1 : Int64) <<< ((Int32.ofNat B) &&& 0x3f).toInt64))), .second] [])
      refine Go.step (fun tt kk => XS.iconst X62.here hx rfl (hb hby at_187) kk) ?_
      show Go _ _ _ _ _ _ _ T62 (mkF m 188 #[.val (.int i0), .val (.int i1), .val (.int i2), .val (.int i3), .val (.int (Int32.ofNat W)), .val (.int (Int32.ofNat H)), .val (.int (Int32.ofNat (W + H))), .val (.int (Int32.ofNat A)), .val (.int (Int32.ofNat B)), .val (.ref b1), .val (.int (Int32.ofNat A)), .val (.int (Int32.ofNat B)), .val (.int (-1 : Int32)), .val (.int (Int32.ofNat (min A B))), .val (.int (Int32.ofNat (max A B))), .val (.int (Int32.ofNat (max A B))), .val (.long (((1 : Int64) <<< ((Int32.ofNat A) &&& 0x3f).toInt64) ||| ((1 : Int64) <<< ((Int32.ofNat B) &&& 0x3f).toInt64))), .second] [(.int (1 : Int32))])
      refine Go.step (fun tt kk => XS.goto X62.here hx rfl (pc0 := 188) (pc' := 192) rfl (hb hby at_188) (by decide) (by decide) kk) ?_
      show Go _ _ _ _ _ _ _ T62 (mkF m 192 #[.val (.int i0), .val (.int i1), .val (.int i2), .val (.int i3), .val (.int (Int32.ofNat W)), .val (.int (Int32.ofNat H)), .val (.int (Int32.ofNat (W + H))), .val (.int (Int32.ofNat A)), .val (.int (Int32.ofNat B)), .val (.ref b1), .val (.int (Int32.ofNat A)), .val (.int (Int32.ofNat B)), .val (.int (-1 : Int32)), .val (.int (Int32.ofNat (min A B))), .val (.int (Int32.ofNat (max A B))), .val (.int (Int32.ofNat (max A B))), .val (.long (((1 : Int64) <<< ((Int32.ofNat A) &&& 0x3f).toInt64) ||| ((1 : Int64) <<< ((Int32.ofNat B) &&& 0x3f).toInt64))), .second] [(.int (1 : Int32))])
      refine go_retN X62 hx (t := .boolean) hret (by simp) hlk (hb hby at_192) (w := (1 : Int32)) rfl ?_ (by decide) (by decide)
      try rw [e62]
      exact ⟨rfl, N62⟩
  · by_cases hB0 : B < H
    · show Go _ _ _ _ _ _ _ T5 (mkF m 70 #[.val (.int i0), .val (.int i1), .val (.int i2), .val (.int i3), .val (.int (Int32.ofNat W)), .val (.int (Int32.ofNat H)), .val (.int (Int32.ofNat (W + H))), .val (.int (Int32.ofNat A)), .val (.int (Int32.ofNat B)), .val (.ref b1), .unset, .unset, .unset, .unset, .unset, .unset, .unset, .unset] [])
      refine Go.step (fun tt kk => XS.aload X5.here hx rfl (hb hby at_70) rfl rfl kk) ?_
      show Go _ _ _ _ _ _ _ T5 (mkF m 72 #[.val (.int i0), .val (.int i1), .val (.int i2), .val (.int i3), .val (.int (Int32.ofNat W)), .val (.int (Int32.ofNat H)), .val (.int (Int32.ofNat (W + H))), .val (.int (Int32.ofNat A)), .val (.int (Int32.ofNat B)), .val (.ref b1), .unset, .unset, .unset, .unset, .unset, .unset, .unset, .unset] [(.ref b1)])
      refine Go.step (fun tt kk => XS.iload X5.here hx rfl (hb hby at_72) rfl kk) ?_
      show Go _ _ _ _ _ _ _ T5 (mkF m 74 #[.val (.int i0), .val (.int i1), .val (.int i2), .val (.int i3), .val (.int (Int32.ofNat W)), .val (.int (Int32.ofNat H)), .val (.int (Int32.ofNat (W + H))), .val (.int (Int32.ofNat A)), .val (.int (Int32.ofNat B)), .val (.ref b1), .unset, .unset, .unset, .unset, .unset, .unset, .unset, .unset] [(.int (Int32.ofNat A)), (.ref b1)])
      obtain ⟨v63, T63, L63, X63, q63, st63⟩ := c_virt X5 hx hZ hown (y' := (⟨"com/example/gridwright/gridwright/engine/SmallDraft", "await", "(I)V"⟩ : MethodName)) (y := (⟨"com/example/gridwright/gridwright/engine/SmallDraft", "await", "(I)V"⟩ : MethodName)) (C := "com/example/gridwright/gridwright/engine/SmallDraft") (hw _ (List.mem_of_getElem? (i := 94) rfl)) (hw _ (List.mem_of_getElem? (i := 95) rfl)) (notFace_of_selects (args := #[]) (mvT hZ (hw _ (List.mem_of_getElem? (i := 97) rfl)))) (hw _ (List.mem_of_getElem? (i := 97) rfl)) (hw _ (List.mem_of_getElem? (i := 96) rfl)) (hw _ (List.mem_of_getElem? (i := 3) rfl)) (hw _ (List.mem_of_getElem? (i := 98) rfl)) (by decide) (a := b1) (argsL := [(.int (Int32.ofNat A))]) (rest := []) (rmAc l Z a0 hw [] b1 A W H (0 : Int64) (0 : Int32) (.ref b3) x2_0 x2_1 (0 : Int64) (0 : Int64) (1 : Int32) h5 n0 Z5 E5q F5q0 F5q1 F5q2 F5q3 F5q4 F5q5 F5q6 F5q7 F5q8 F5q9 F5q10 F5q11 gn_b1 (by omega) (by omega) hA0) e5 E5q pd_6 rfl (by rw [hml]; rfl) (W := 0) (by show 2 * 0 + _ ≤ _; exact Nat.le_of_eq rfl) (by decide) (by decide) (by decide) (by decide) (hb hby at_74) (Ls := #[.val (.int i0), .val (.int i1), .val (.int i2), .val (.int i3), .val (.int (Int32.ofNat W)), .val (.int (Int32.ofNat H)), .val (.int (Int32.ofNat (W + H))), .val (.int (Int32.ofNat A)), .val (.int (Int32.ofNat B)), .val (.ref b1), .unset, .unset, .unset, .unset, .unset, .unset, .unset, .unset])
      generalize e63 : T63.heap = h63 at q63
      obtain ⟨rfl, N63q, K63q, E63q, F63q0, F63q1, F63q2, F63q3, F63q4, F63q5, F63q6, F63q7, F63q8, F63q9, F63q10, F63q11⟩ := q63
      have N63 := Fr.app N5 N63q
      have Z63 : n0 ≤ h63.size := Nat.le_trans Z5 K63q.1
      refine Go.step (st63) ?_
      show Go _ _ _ _ _ _ _ T63 (mkF m 77 #[.val (.int i0), .val (.int i1), .val (.int i2), .val (.int i3), .val (.int (Int32.ofNat W)), .val (.int (Int32.ofNat H)), .val (.int (Int32.ofNat (W + H))), .val (.int (Int32.ofNat A)), .val (.int (Int32.ofNat B)), .val (.ref b1), .unset, .unset, .unset, .unset, .unset, .unset, .unset, .unset] [])
      refine Go.step (fun tt kk => XS.aload X63.here hx rfl (hb hby at_77) rfl rfl kk) ?_
      show Go _ _ _ _ _ _ _ T63 (mkF m 79 #[.val (.int i0), .val (.int i1), .val (.int i2), .val (.int i3), .val (.int (Int32.ofNat W)), .val (.int (Int32.ofNat H)), .val (.int (Int32.ofNat (W + H))), .val (.int (Int32.ofNat A)), .val (.int (Int32.ofNat B)), .val (.ref b1), .unset, .unset, .unset, .unset, .unset, .unset, .unset, .unset] [(.ref b1)])
      refine Go.step (fun tt kk => XS.iload X63.here hx rfl (hb hby at_79) rfl kk) ?_
      show Go _ _ _ _ _ _ _ T63 (mkF m 81 #[.val (.int i0), .val (.int i1), .val (.int i2), .val (.int i3), .val (.int (Int32.ofNat W)), .val (.int (Int32.ofNat H)), .val (.int (Int32.ofNat (W + H))), .val (.int (Int32.ofNat A)), .val (.int (Int32.ofNat B)), .val (.ref b1), .unset, .unset, .unset, .unset, .unset, .unset, .unset, .unset] [(.int (Int32.ofNat B)), (.ref b1)])
      obtain ⟨v64, T64, L64, X64, q64, st64⟩ := c_virt X63 hx hZ hown (y' := (⟨"com/example/gridwright/gridwright/engine/SmallDraft", "await", "(I)V"⟩ : MethodName)) (y := (⟨"com/example/gridwright/gridwright/engine/SmallDraft", "await", "(I)V"⟩ : MethodName)) (C := "com/example/gridwright/gridwright/engine/SmallDraft") (hw _ (List.mem_of_getElem? (i := 94) rfl)) (hw _ (List.mem_of_getElem? (i := 95) rfl)) (notFace_of_selects (args := #[]) (mvT hZ (hw _ (List.mem_of_getElem? (i := 97) rfl)))) (hw _ (List.mem_of_getElem? (i := 97) rfl)) (hw _ (List.mem_of_getElem? (i := 96) rfl)) (hw _ (List.mem_of_getElem? (i := 3) rfl)) (hw _ (List.mem_of_getElem? (i := 98) rfl)) (by decide) (a := b1) (argsL := [(.int (Int32.ofNat B))]) (rest := []) (rmAr l Z a0 hw [] b1 B W H (0 : Int64) (0 : Int32) (.ref b3) x2_0 x2_1 (0 : Int64) ((0 : Int64) ||| (sh (Int32.ofNat (A - H)))) (1 : Int32) h63 n0 Z63 E63q F63q0 F63q1 F63q2 F63q3 F63q4 F63q5 F63q6 F63q7 F63q8 F63q9 F63q10 F63q11 gn_b1 (by omega) (by omega) hB0) e63 E63q pd_6 rfl (by rw [hml]; rfl) (W := 0) (by show 2 * 0 + _ ≤ _; exact Nat.le_of_eq rfl) (by decide) (by decide) (by decide) (by decide) (hb hby at_81) (Ls := #[.val (.int i0), .val (.int i1), .val (.int i2), .val (.int i3), .val (.int (Int32.ofNat W)), .val (.int (Int32.ofNat H)), .val (.int (Int32.ofNat (W + H))), .val (.int (Int32.ofNat A)), .val (.int (Int32.ofNat B)), .val (.ref b1), .unset, .unset, .unset, .unset, .unset, .unset, .unset, .unset])
      generalize e64 : T64.heap = h64 at q64
      obtain ⟨rfl, N64q, K64q, E64q, F64q0, F64q1, F64q2, F64q3, F64q4, F64q5, F64q6, F64q7, F64q8, F64q9, F64q10, F64q11⟩ := q64
      have N64 := Fr.app N63 N64q
      have Z64 : n0 ≤ h64.size := Nat.le_trans Z63 K64q.1
      refine Go.step (st64) ?_
      show Go _ _ _ _ _ _ _ T64 (mkF m 84 #[.val (.int i0), .val (.int i1), .val (.int i2), .val (.int i3), .val (.int (Int32.ofNat W)), .val (.int (Int32.ofNat H)), .val (.int (Int32.ofNat (W + H))), .val (.int (Int32.ofNat A)), .val (.int (Int32.ofNat B)), .val (.ref b1), .unset, .unset, .unset, .unset, .unset, .unset, .unset, .unset] [])
      refine Go.step (fun tt kk => XS.aload X64.here hx rfl (hb hby at_84) rfl rfl kk) ?_
      show Go _ _ _ _ _ _ _ T64 (mkF m 86 #[.val (.int i0), .val (.int i1), .val (.int i2), .val (.int i3), .val (.int (Int32.ofNat W)), .val (.int (Int32.ofNat H)), .val (.int (Int32.ofNat (W + H))), .val (.int (Int32.ofNat A)), .val (.int (Int32.ofNat B)), .val (.ref b1), .unset, .unset, .unset, .unset, .unset, .unset, .unset, .unset] [(.ref b1)])
      refine Go.step (fun tt kk => XS.iload X64.here hx rfl (hb hby at_86) rfl kk) ?_
      show Go _ _ _ _ _ _ _ T64 (mkF m 88 #[.val (.int i0), .val (.int i1), .val (.int i2), .val (.int i3), .val (.int (Int32.ofNat W)), .val (.int (Int32.ofNat H)), .val (.int (Int32.ofNat (W + H))), .val (.int (Int32.ofNat A)), .val (.int (Int32.ofNat B)), .val (.ref b1), .unset, .unset, .unset, .unset, .unset, .unset, .unset, .unset] [(.int (Int32.ofNat A)), (.ref b1)])
      obtain ⟨v65, T65, L65, X65, q65, st65⟩ := c_virt X64 hx hZ hown (y' := (⟨"com/example/gridwright/gridwright/engine/SmallDraft", "await", "(I)V"⟩ : MethodName)) (y := (⟨"com/example/gridwright/gridwright/engine/SmallDraft", "await", "(I)V"⟩ : MethodName)) (C := "com/example/gridwright/gridwright/engine/SmallDraft") (hw _ (List.mem_of_getElem? (i := 94) rfl)) (hw _ (List.mem_of_getElem? (i := 95) rfl)) (notFace_of_selects (args := #[]) (mvT hZ (hw _ (List.mem_of_getElem? (i := 97) rfl)))) (hw _ (List.mem_of_getElem? (i := 97) rfl)) (hw _ (List.mem_of_getElem? (i := 96) rfl)) (hw _ (List.mem_of_getElem? (i := 3) rfl)) (hw _ (List.mem_of_getElem? (i := 98) rfl)) (by decide) (a := b1) (argsL := [(.int (Int32.ofNat A))]) (rest := []) (rmAc l Z a0 hw [] b1 A W H (0 : Int64) (0 : Int32) (.ref b3) x2_0 x2_1 ((0 : Int64) ||| (sh (Int32.ofNat B))) ((0 : Int64) ||| (sh (Int32.ofNat (A - H)))) (1 : Int32) h64 n0 Z64 E64q F64q0 F64q1 F64q2 F64q3 F64q4 F64q5 F64q6 F64q7 F64q8 F64q9 F64q10 F64q11 gn_b1 (by omega) (by omega) hA0) e64 E64q pd_6 rfl (by rw [hml]; rfl) (W := 0) (by show 2 * 0 + _ ≤ _; exact Nat.le_of_eq rfl) (by decide) (by decide) (by decide) (by decide) (hb hby at_88) (Ls := #[.val (.int i0), .val (.int i1), .val (.int i2), .val (.int i3), .val (.int (Int32.ofNat W)), .val (.int (Int32.ofNat H)), .val (.int (Int32.ofNat (W + H))), .val (.int (Int32.ofNat A)), .val (.int (Int32.ofNat B)), .val (.ref b1), .unset, .unset, .unset, .unset, .unset, .unset, .unset, .unset])
      generalize e65 : T65.heap = h65 at q65
      obtain ⟨rfl, N65q, K65q, E65q, F65q0, F65q1, F65q2, F65q3, F65q4, F65q5, F65q6, F65q7, F65q8, F65q9, F65q10, F65q11⟩ := q65
      have N65 := Fr.app N64 N65q
      have Z65 : n0 ≤ h65.size := Nat.le_trans Z64 K65q.1
      refine Go.step (st65) ?_
      show Go _ _ _ _ _ _ _ T65 (mkF m 91 #[.val (.int i0), .val (.int i1), .val (.int i2), .val (.int i3), .val (.int (Int32.ofNat W)), .val (.int (Int32.ofNat H)), .val (.int (Int32.ofNat (W + H))), .val (.int (Int32.ofNat A)), .val (.int (Int32.ofNat B)), .val (.ref b1), .unset, .unset, .unset, .unset, .unset, .unset, .unset, .unset] [])
      have f66 : Fld Z h65 b1 "com/example/gridwright/gridwright/engine/SmallDraft" "waitingColumns" "J" (.long (sh (Int32.ofNat (A - H)))) := by
        have q := F65q10
        rwa [own_or0, Int64.or_self] at q
      have f67 : Fld Z h65 b1 "com/example/gridwright/gridwright/engine/SmallDraft" "waitingRows" "J" (.long (sh (Int32.ofNat B))) := by
        have q := F65q9
        rwa [own_or0] at q
      have f68 : Fld Z h65 b1 "com/example/gridwright/gridwright/engine/SmallDraft" "rows" "Z" (.int (bi (true = true))) := by
        have q := F65q11
        exact q
      obtain ⟨t1, t2, t3⟩ := own_one ⟨B, by omega⟩
      obtain ⟨u1, u2, u3⟩ := own_one ⟨A - H, by omega⟩
      dsimp only at t1 t2 t3 u1 u2 u3
      refine Go.step (fun tt kk => XS.aload X65.here hx rfl (hb hby at_91) rfl rfl kk) ?_
      show Go _ _ _ _ _ _ _ T65 (mkF m 93 #[.val (.int i0), .val (.int i1), .val (.int i2), .val (.int i3), .val (.int (Int32.ofNat W)), .val (.int (Int32.ofNat H)), .val (.int (Int32.ofNat (W + H))), .val (.int (Int32.ofNat A)), .val (.int (Int32.ofNat B)), .val (.ref b1), .unset, .unset, .unset, .unset, .unset, .unset, .unset, .unset] [(.ref b1)])
      obtain ⟨v69, T69, L69, X69, q69, st69⟩ := c_virt X65 hx hZ hown (y' := (⟨"com/example/gridwright/gridwright/engine/SmallDraft", "next", "()I"⟩ : MethodName)) (y := (⟨"com/example/gridwright/gridwright/engine/SmallDraft", "next", "()I"⟩ : MethodName)) (C := "com/example/gridwright/gridwright/engine/SmallDraft") (hw _ (List.mem_of_getElem? (i := 101) rfl)) (hw _ (List.mem_of_getElem? (i := 102) rfl)) (notFace_of_selects (args := #[]) (mvT hZ (hw _ (List.mem_of_getElem? (i := 104) rfl)))) (hw _ (List.mem_of_getElem? (i := 104) rfl)) (hw _ (List.mem_of_getElem? (i := 103) rfl)) (hw _ (List.mem_of_getElem? (i := 3) rfl)) (hw _ (List.mem_of_getElem? (i := 105) rfl)) (by decide) (a := b1) (argsL := []) (rest := []) (rmNr l Z a0 hw [] b1 W H (0 : Int64) (0 : Int32) (.ref b3) x2_0 x2_1 (sh (Int32.ofNat B)) (sh (Int32.ofNat (A - H))) true h65 n0 Z65 E65q F65q0 F65q1 F65q2 F65q3 F65q4 F65q5 F65q6 F65q7 F65q8 f67 f66 f68 gn_b1 t2 (Or.inl rfl)) e65 E65q pd_3 rfl (by rw [hml]; rfl) (W := 0) (by show 2 * 0 + _ ≤ _; exact Nat.le_of_eq rfl) (by decide) (by decide) (by decide) (by decide) (hb hby at_93) (Ls := #[.val (.int i0), .val (.int i1), .val (.int i2), .val (.int i3), .val (.int (Int32.ofNat W)), .val (.int (Int32.ofNat H)), .val (.int (Int32.ofNat (W + H))), .val (.int (Int32.ofNat A)), .val (.int (Int32.ofNat B)), .val (.ref b1), .unset, .unset, .unset, .unset, .unset, .unset, .unset, .unset])
      generalize e69 : T69.heap = h69 at q69
      obtain ⟨rfl, N69q, K69q, E69q, F69q0, F69q1, F69q2, F69q3, F69q4, F69q5, F69q6, F69q7, F69q8, F69q9, F69q10, F69q11⟩ := q69
      have N69 := Fr.app N65 N69q
      have Z69 : n0 ≤ h69.size := Nat.le_trans Z65 K69q.1
      refine Go.step (st69) ?_
      show Go _ _ _ _ _ _ _ T69 (mkF m 96 #[.val (.int i0), .val (.int i1), .val (.int i2), .val (.int i3), .val (.int (Int32.ofNat W)), .val (.int (Int32.ofNat H)), .val (.int (Int32.ofNat (W + H))), .val (.int (Int32.ofNat A)), .val (.int (Int32.ofNat B)), .val (.ref b1), .unset, .unset, .unset, .unset, .unset, .unset, .unset, .unset] [(.int (ntz (sh (Int32.ofNat B))))])
      refine Go.step (fun tt kk => XS.istore X69.here hx rfl (hb hby at_96) rfl (l' := #[.val (.int i0), .val (.int i1), .val (.int i2), .val (.int i3), .val (.int (Int32.ofNat W)), .val (.int (Int32.ofNat H)), .val (.int (Int32.ofNat (W + H))), .val (.int (Int32.ofNat A)), .val (.int (Int32.ofNat B)), .val (.ref b1), .val (.int (ntz (sh (Int32.ofNat B)))), .unset, .unset, .unset, .unset, .unset, .unset, .unset]) rfl kk) ?_
      show Go _ _ _ _ _ _ _ T69 (mkF m 98 #[.val (.int i0), .val (.int i1), .val (.int i2), .val (.int i3), .val (.int (Int32.ofNat W)), .val (.int (Int32.ofNat H)), .val (.int (Int32.ofNat (W + H))), .val (.int (Int32.ofNat A)), .val (.int (Int32.ofNat B)), .val (.ref b1), .val (.int (ntz (sh (Int32.ofNat B)))), .unset, .unset, .unset, .unset, .unset, .unset, .unset] [])
      rw [t1]
      show Go _ _ _ _ _ _ _ T69 (mkF m 98 #[.val (.int i0), .val (.int i1), .val (.int i2), .val (.int i3), .val (.int (Int32.ofNat W)), .val (.int (Int32.ofNat H)), .val (.int (Int32.ofNat (W + H))), .val (.int (Int32.ofNat A)), .val (.int (Int32.ofNat B)), .val (.ref b1), .val (.int (Int32.ofNat B)), .unset, .unset, .unset, .unset, .unset, .unset, .unset] [])
      have f70 : Fld Z h69 b1 "com/example/gridwright/gridwright/engine/SmallDraft" "waitingRows" "J" (.long (0 : Int64)) := by
        have q := F69q9
        rwa [t3] at q
      have f71 : Fld Z h69 b1 "com/example/gridwright/gridwright/engine/Draft" "taken" "J" (.long ((0 : Int64) ||| (sh (Int32.ofNat B)))) := by
        have q := F69q2
        rwa [t1] at q
      refine Go.step (fun tt kk => XS.aload X69.here hx rfl (hb hby at_98) rfl rfl kk) ?_
      show Go _ _ _ _ _ _ _ T69 (mkF m 100 #[.val (.int i0), .val (.int i1), .val (.int i2), .val (.int i3), .val (.int (Int32.ofNat W)), .val (.int (Int32.ofNat H)), .val (.int (Int32.ofNat (W + H))), .val (.int (Int32.ofNat A)), .val (.int (Int32.ofNat B)), .val (.ref b1), .val (.int (Int32.ofNat B)), .unset, .unset, .unset, .unset, .unset, .unset, .unset] [(.ref b1)])
      obtain ⟨v72, T72, L72, X72, q72, st72⟩ := c_virt X69 hx hZ hown (y' := (⟨"com/example/gridwright/gridwright/engine/SmallDraft", "next", "()I"⟩ : MethodName)) (y := (⟨"com/example/gridwright/gridwright/engine/SmallDraft", "next", "()I"⟩ : MethodName)) (C := "com/example/gridwright/gridwright/engine/SmallDraft") (hw _ (List.mem_of_getElem? (i := 101) rfl)) (hw _ (List.mem_of_getElem? (i := 102) rfl)) (notFace_of_selects (args := #[]) (mvT hZ (hw _ (List.mem_of_getElem? (i := 104) rfl)))) (hw _ (List.mem_of_getElem? (i := 104) rfl)) (hw _ (List.mem_of_getElem? (i := 103) rfl)) (hw _ (List.mem_of_getElem? (i := 3) rfl)) (hw _ (List.mem_of_getElem? (i := 105) rfl)) (by decide) (a := b1) (argsL := []) (rest := []) (rmNc l Z a0 hw [] b1 W H ((0 : Int64) ||| (sh (Int32.ofNat B))) (0 : Int32) (.ref b3) x2_0 x2_1 (0 : Int64) (sh (Int32.ofNat (A - H))) true h69 n0 Z69 E69q F69q0 F69q1 f71 F69q3 F69q4 F69q5 F69q6 F69q7 F69q8 f70 F69q10 F69q11 gn_b1 u2 (Or.inr rfl)) e69 E69q pd_3 rfl (by rw [hml]; rfl) (W := 0) (by show 2 * 0 + _ ≤ _; exact Nat.le_of_eq rfl) (by decide) (by decide) (by decide) (by decide) (hb hby at_100) (Ls := #[.val (.int i0), .val (.int i1), .val (.int i2), .val (.int i3), .val (.int (Int32.ofNat W)), .val (.int (Int32.ofNat H)), .val (.int (Int32.ofNat (W + H))), .val (.int (Int32.ofNat A)), .val (.int (Int32.ofNat B)), .val (.ref b1), .val (.int (Int32.ofNat B)), .unset, .unset, .unset, .unset, .unset, .unset, .unset])
      generalize e72 : T72.heap = h72 at q72
      obtain ⟨rfl, N72q, K72q, E72q, F72q0, F72q1, F72q2, F72q3, F72q4, F72q5, F72q6, F72q7, F72q8, F72q9, F72q10, F72q11⟩ := q72
      have N72 := Fr.app N69 N72q
      have Z72 : n0 ≤ h72.size := Nat.le_trans Z69 K72q.1
      refine Go.step (st72) ?_
      show Go _ _ _ _ _ _ _ T72 (mkF m 103 #[.val (.int i0), .val (.int i1), .val (.int i2), .val (.int i3), .val (.int (Int32.ofNat W)), .val (.int (Int32.ofNat H)), .val (.int (Int32.ofNat (W + H))), .val (.int (Int32.ofNat A)), .val (.int (Int32.ofNat B)), .val (.ref b1), .val (.int (Int32.ofNat B)), .unset, .unset, .unset, .unset, .unset, .unset, .unset] [(.int (Int32.ofNat H + ntz (sh (Int32.ofNat (A - H)))))])
      refine Go.step (fun tt kk => XS.istore X72.here hx rfl (hb hby at_103) rfl (l' := #[.val (.int i0), .val (.int i1), .val (.int i2), .val (.int i3), .val (.int (Int32.ofNat W)), .val (.int (Int32.ofNat H)), .val (.int (Int32.ofNat (W + H))), .val (.int (Int32.ofNat A)), .val (.int (Int32.ofNat B)), .val (.ref b1), .val (.int (Int32.ofNat B)), .val (.int (Int32.ofNat H + ntz (sh (Int32.ofNat (A - H))))), .unset, .unset, .unset, .unset, .unset, .unset]) rfl kk) ?_
      show Go _ _ _ _ _ _ _ T72 (mkF m 105 #[.val (.int i0), .val (.int i1), .val (.int i2), .val (.int i3), .val (.int (Int32.ofNat W)), .val (.int (Int32.ofNat H)), .val (.int (Int32.ofNat (W + H))), .val (.int (Int32.ofNat A)), .val (.int (Int32.ofNat B)), .val (.ref b1), .val (.int (Int32.ofNat B)), .val (.int (Int32.ofNat H + ntz (sh (Int32.ofNat (A - H))))), .unset, .unset, .unset, .unset, .unset, .unset] [])
      rw [u1, ← Int32.ofNat_add, show H + (A - H) = A by omega]
      show Go _ _ _ _ _ _ _ T72 (mkF m 105 #[.val (.int i0), .val (.int i1), .val (.int i2), .val (.int i3), .val (.int (Int32.ofNat W)), .val (.int (Int32.ofNat H)), .val (.int (Int32.ofNat (W + H))), .val (.int (Int32.ofNat A)), .val (.int (Int32.ofNat B)), .val (.ref b1), .val (.int (Int32.ofNat B)), .val (.int (Int32.ofNat A)), .unset, .unset, .unset, .unset, .unset, .unset] [])
      have f73 : Fld Z h72 b1 "com/example/gridwright/gridwright/engine/SmallDraft" "waitingColumns" "J" (.long (0 : Int64)) := by
        have q := F72q10
        rwa [u3] at q
      have f74 : Fld Z h72 b1 "com/example/gridwright/gridwright/engine/Draft" "taken" "J" (.long (((0 : Int64) ||| (sh (Int32.ofNat B))) ||| (sh (Int32.ofNat A)))) := by
        have q := F72q2
        rwa [u1, ← Int32.ofNat_add, show H + (A - H) = A by omega] at q
      refine Go.step (fun tt kk => XS.aload X72.here hx rfl (hb hby at_105) rfl rfl kk) ?_
      show Go _ _ _ _ _ _ _ T72 (mkF m 107 #[.val (.int i0), .val (.int i1), .val (.int i2), .val (.int i3), .val (.int (Int32.ofNat W)), .val (.int (Int32.ofNat H)), .val (.int (Int32.ofNat (W + H))), .val (.int (Int32.ofNat A)), .val (.int (Int32.ofNat B)), .val (.ref b1), .val (.int (Int32.ofNat B)), .val (.int (Int32.ofNat A)), .unset, .unset, .unset, .unset, .unset, .unset] [(.ref b1)])
      obtain ⟨v75, T75, L75, X75, q75, st75⟩ := c_virt X72 hx hZ hown (y' := (⟨"com/example/gridwright/gridwright/engine/SmallDraft", "next", "()I"⟩ : MethodName)) (y := (⟨"com/example/gridwright/gridwright/engine/SmallDraft", "next", "()I"⟩ : MethodName)) (C := "com/example/gridwright/gridwright/engine/SmallDraft") (hw _ (List.mem_of_getElem? (i := 101) rfl)) (hw _ (List.mem_of_getElem? (i := 102) rfl)) (notFace_of_selects (args := #[]) (mvT hZ (hw _ (List.mem_of_getElem? (i := 104) rfl)))) (hw _ (List.mem_of_getElem? (i := 104) rfl)) (hw _ (List.mem_of_getElem? (i := 103) rfl)) (hw _ (List.mem_of_getElem? (i := 3) rfl)) (hw _ (List.mem_of_getElem? (i := 105) rfl)) (by decide) (a := b1) (argsL := []) (rest := []) (rmNn l Z a0 hw [] b1 W H (((0 : Int64) ||| (sh (Int32.ofNat B))) ||| (sh (Int32.ofNat A))) (0 : Int32) (.ref b3) x2_0 x2_1 (0 : Int64) (0 : Int64) false h72 n0 Z72 E72q F72q0 F72q1 f74 F72q3 F72q4 F72q5 F72q6 F72q7 F72q8 F72q9 f73 F72q11 gn_b1 rfl rfl) e72 E72q pd_3 rfl (by rw [hml]; rfl) (W := 0) (by show 2 * 0 + _ ≤ _; exact Nat.le_of_eq rfl) (by decide) (by decide) (by decide) (by decide) (hb hby at_107) (Ls := #[.val (.int i0), .val (.int i1), .val (.int i2), .val (.int i3), .val (.int (Int32.ofNat W)), .val (.int (Int32.ofNat H)), .val (.int (Int32.ofNat (W + H))), .val (.int (Int32.ofNat A)), .val (.int (Int32.ofNat B)), .val (.ref b1), .val (.int (Int32.ofNat B)), .val (.int (Int32.ofNat A)), .unset, .unset, .unset, .unset, .unset, .unset])
      generalize e75 : T75.heap = h75 at q75
      obtain ⟨rfl, N75q, K75q, E75q, F75q0, F75q1, F75q2, F75q3, F75q4, F75q5, F75q6, F75q7, F75q8, F75q9, F75q10, F75q11⟩ := q75
      have N75 := Fr.app N72 N75q
      have Z75 : n0 ≤ h75.size := Nat.le_trans Z72 K75q.1
      refine Go.step (st75) ?_
      show Go _ _ _ _ _ _ _ T75 (mkF m 110 #[.val (.int i0), .val (.int i1), .val (.int i2), .val (.int i3), .val (.int (Int32.ofNat W)), .val (.int (Int32.ofNat H)), .val (.int (Int32.ofNat (W + H))), .val (.int (Int32.ofNat A)), .val (.int (Int32.ofNat B)), .val (.ref b1), .val (.int (Int32.ofNat B)), .val (.int (Int32.ofNat A)), .unset, .unset, .unset, .unset, .unset, .unset] [(.int (-1 : Int32))])
      refine Go.step (fun tt kk => XS.istore X75.here hx rfl (hb hby at_110) rfl (l' := #[.val (.int i0), .val (.int i1), .val (.int i2), .val (.int i3), .val (.int (Int32.ofNat W)), .val (.int (Int32.ofNat H)), .val (.int (Int32.ofNat (W + H))), .val (.int (Int32.ofNat A)), .val (.int (Int32.ofNat B)), .val (.ref b1), .val (.int (Int32.ofNat B)), .val (.int (Int32.ofNat A)), .val (.int (-1 : Int32)), .unset, .unset, .unset, .unset, .unset]) rfl kk) ?_
      show Go _ _ _ _ _ _ _ T75 (mkF m 112 #[.val (.int i0), .val (.int i1), .val (.int i2), .val (.int i3), .val (.int (Int32.ofNat W)), .val (.int (Int32.ofNat H)), .val (.int (Int32.ofNat (W + H))), .val (.int (Int32.ofNat A)), .val (.int (Int32.ofNat B)), .val (.ref b1), .val (.int (Int32.ofNat B)), .val (.int (Int32.ofNat A)), .val (.int (-1 : Int32)), .unset, .unset, .unset, .unset, .unset] [])
      refine Go.step (fun tt kk => XS.iload X75.here hx rfl (hb hby at_112) rfl kk) ?_
      show Go _ _ _ _ _ _ _ T75 (mkF m 114 #[.val (.int i0), .val (.int i1), .val (.int i2), .val (.int i3), .val (.int (Int32.ofNat W)), .val (.int (Int32.ofNat H)), .val (.int (Int32.ofNat (W + H))), .val (.int (Int32.ofNat A)), .val (.int (Int32.ofNat B)), .val (.ref b1), .val (.int (Int32.ofNat B)), .val (.int (Int32.ofNat A)), .val (.int (-1 : Int32)), .unset, .unset, .unset, .unset, .unset] [(.int (Int32.ofNat A))])
      refine Go.step (fun tt kk => XS.iload X75.here hx rfl (hb hby at_114) rfl kk) ?_
      show Go _ _ _ _ _ _ _ T75 (mkF m 116 #[.val (.int i0), .val (.int i1), .val (.int i2), .val (.int i3), .val (.int (Int32.ofNat W)), .val (.int (Int32.ofNat H)), .val (.int (Int32.ofNat (W + H))), .val (.int (Int32.ofNat A)), .val (.int (Int32.ofNat B)), .val (.ref b1), .val (.int (Int32.ofNat B)), .val (.int (Int32.ofNat A)), .val (.int (-1 : Int32)), .unset, .unset, .unset, .unset, .unset] [(.int (Int32.ofNat B)), (.int (Int32.ofNat A))])
      obtain ⟨v76, T76, L76, X76, q76, st76⟩ := c_static X75 hx hZ hown (y := (⟨"java/lang/Math", "min", "(II)I"⟩ : MethodName)) (hw _ (List.mem_of_getElem? (i := 117) rfl)) (hw _ (List.mem_of_getElem? (i := 118) rfl)) (hw _ (List.mem_of_getElem? (i := 37) rfl)) (hw _ (List.mem_of_getElem? (i := 119) rfl)) (by decide) (argsL := [(.int (Int32.ofNat A)), (.int (Int32.ofNat B))]) (rest := []) (rmmn l Z a0 hw [] (Int32.ofNat A) (Int32.ofNat B) h75 n0 Z75) e75 pd_0 rfl (by rw [hml]; rfl) (W := 0) (by show 2 * 0 + _ ≤ _; exact Nat.le_of_eq rfl) (by decide) (by decide) (by decide) (by decide) (hb hby at_116) (Ls := #[.val (.int i0), .val (.int i1), .val (.int i2), .val (.int i3), .val (.int (Int32.ofNat W)), .val (.int (Int32.ofNat H)), .val (.int (Int32.ofNat (W + H))), .val (.int (Int32.ofNat A)), .val (.int (Int32.ofNat B)), .val (.ref b1), .val (.int (Int32.ofNat B)), .val (.int (Int32.ofNat A)), .val (.int (-1 : Int32)), .unset, .unset, .unset, .unset, .unset])
      obtain ⟨rfl, rfl, e76⟩ := q76
      have N76 := Fr.app N75 (Fr.nil n0)
      refine Go.step (st76) ?_
      show Go _ _ _ _ _ _ _ T76 (mkF m 119 #[.val (.int i0), .val (.int i1), .val (.int i2), .val (.int i3), .val (.int (Int32.ofNat W)), .val (.int (Int32.ofNat H)), .val (.int (Int32.ofNat (W + H))), .val (.int (Int32.ofNat A)), .val (.int (Int32.ofNat B)), .val (.ref b1), .val (.int (Int32.ofNat B)), .val (.int (Int32.ofNat A)), .val (.int (-1 : Int32)), .unset, .unset, .unset, .unset, .unset] [(.int (mn (Int32.ofNat A) (Int32.ofNat B)))])
      rw [own_min _ _ (by omega) (by omega)]
      show Go _ _ _ _ _ _ _ T76 (mkF m 119 #[.val (.int i0), .val (.int i1), .val (.int i2), .val (.int i3), .val (.int (Int32.ofNat W)), .val (.int (Int32.ofNat H)), .val (.int (Int32.ofNat (W + H))), .val (.int (Int32.ofNat A)), .val (.int (Int32.ofNat B)), .val (.ref b1), .val (.int (Int32.ofNat B)), .val (.int (Int32.ofNat A)), .val (.int (-1 : Int32)), .unset, .unset, .unset, .unset, .unset] [(.int (Int32.ofNat (min A B)))])
      refine Go.step (fun tt kk => XS.istore X76.here hx rfl (hb hby at_119) rfl (l' := #[.val (.int i0), .val (.int i1), .val (.int i2), .val (.int i3), .val (.int (Int32.ofNat W)), .val (.int (Int32.ofNat H)), .val (.int (Int32.ofNat (W + H))), .val (.int (Int32.ofNat A)), .val (.int (Int32.ofNat B)), .val (.ref b1), .val (.int (Int32.ofNat B)), .val (.int (Int32.ofNat A)), .val (.int (-1 : Int32)), .val (.int (Int32.ofNat (min A B))), .unset, .unset, .unset, .unset]) rfl kk) ?_
      show Go _ _ _ _ _ _ _ T76 (mkF m 121 #[.val (.int i0), .val (.int i1), .val (.int i2), .val (.int i3), .val (.int (Int32.ofNat W)), .val (.int (Int32.ofNat H)), .val (.int (Int32.ofNat (W + H))), .val (.int (Int32.ofNat A)), .val (.int (Int32.ofNat B)), .val (.ref b1), .val (.int (Int32.ofNat B)), .val (.int (Int32.ofNat A)), .val (.int (-1 : Int32)), .val (.int (Int32.ofNat (min A B))), .unset, .unset, .unset, .unset] [])
      refine Go.step (fun tt kk => XS.iload X76.here hx rfl (hb hby at_121) rfl kk) ?_
      show Go _ _ _ _ _ _ _ T76 (mkF m 123 #[.val (.int i0), .val (.int i1), .val (.int i2), .val (.int i3), .val (.int (Int32.ofNat W)), .val (.int (Int32.ofNat H)), .val (.int (Int32.ofNat (W + H))), .val (.int (Int32.ofNat A)), .val (.int (Int32.ofNat B)), .val (.ref b1), .val (.int (Int32.ofNat B)), .val (.int (Int32.ofNat A)), .val (.int (-1 : Int32)), .val (.int (Int32.ofNat (min A B))), .unset, .unset, .unset, .unset] [(.int (Int32.ofNat A))])
      refine Go.step (fun tt kk => XS.iload X76.here hx rfl (hb hby at_123) rfl kk) ?_
      show Go _ _ _ _ _ _ _ T76 (mkF m 125 #[.val (.int i0), .val (.int i1), .val (.int i2), .val (.int i3), .val (.int (Int32.ofNat W)), .val (.int (Int32.ofNat H)), .val (.int (Int32.ofNat (W + H))), .val (.int (Int32.ofNat A)), .val (.int (Int32.ofNat B)), .val (.ref b1), .val (.int (Int32.ofNat B)), .val (.int (Int32.ofNat A)), .val (.int (-1 : Int32)), .val (.int (Int32.ofNat (min A B))), .unset, .unset, .unset, .unset] [(.int (Int32.ofNat B)), (.int (Int32.ofNat A))])
      obtain ⟨v77, T77, L77, X77, q77, st77⟩ := c_static X76 hx hZ hown (y := (⟨"java/lang/Math", "max", "(II)I"⟩ : MethodName)) (hw _ (List.mem_of_getElem? (i := 120) rfl)) (hw _ (List.mem_of_getElem? (i := 46) rfl)) (hw _ (List.mem_of_getElem? (i := 37) rfl)) (hw _ (List.mem_of_getElem? (i := 47) rfl)) (by decide) (argsL := [(.int (Int32.ofNat A)), (.int (Int32.ofNat B))]) (rest := []) (rmmx l Z a0 hw [] (Int32.ofNat A) (Int32.ofNat B) h75 n0 Z75) e76 pd_0 rfl (by rw [hml]; rfl) (W := 0) (by show 2 * 0 + _ ≤ _; exact Nat.le_of_eq rfl) (by decide) (by decide) (by decide) (by decide) (hb hby at_125) (Ls := #[.val (.int i0), .val (.int i1), .val (.int i2), .val (.int i3), .val (.int (Int32.ofNat W)), .val (.int (Int32.ofNat H)), .val (.int (Int32.ofNat (W + H))), .val (.int (Int32.ofNat A)), .val (.int (Int32.ofNat B)), .val (.ref b1), .val (.int (Int32.ofNat B)), .val (.int (Int32.ofNat A)), .val (.int (-1 : Int32)), .val (.int (Int32.ofNat (min A B))), .unset, .unset, .unset, .unset])
      obtain ⟨rfl, rfl, e77⟩ := q77
      have N77 := Fr.app N76 (Fr.nil n0)
      refine Go.step (st77) ?_
      show Go _ _ _ _ _ _ _ T77 (mkF m 128 #[.val (.int i0), .val (.int i1), .val (.int i2), .val (.int i3), .val (.int (Int32.ofNat W)), .val (.int (Int32.ofNat H)), .val (.int (Int32.ofNat (W + H))), .val (.int (Int32.ofNat A)), .val (.int (Int32.ofNat B)), .val (.ref b1), .val (.int (Int32.ofNat B)), .val (.int (Int32.ofNat A)), .val (.int (-1 : Int32)), .val (.int (Int32.ofNat (min A B))), .unset, .unset, .unset, .unset] [(.int (mx (Int32.ofNat A) (Int32.ofNat B)))])
      rw [own_max _ _ (by omega) (by omega)]
      show Go _ _ _ _ _ _ _ T77 (mkF m 128 #[.val (.int i0), .val (.int i1), .val (.int i2), .val (.int i3), .val (.int (Int32.ofNat W)), .val (.int (Int32.ofNat H)), .val (.int (Int32.ofNat (W + H))), .val (.int (Int32.ofNat A)), .val (.int (Int32.ofNat B)), .val (.ref b1), .val (.int (Int32.ofNat B)), .val (.int (Int32.ofNat A)), .val (.int (-1 : Int32)), .val (.int (Int32.ofNat (min A B))), .unset, .unset, .unset, .unset] [(.int (Int32.ofNat (max A B)))])
      refine Go.step (fun tt kk => XS.istore X77.here hx rfl (hb hby at_128) rfl (l' := #[.val (.int i0), .val (.int i1), .val (.int i2), .val (.int i3), .val (.int (Int32.ofNat W)), .val (.int (Int32.ofNat H)), .val (.int (Int32.ofNat (W + H))), .val (.int (Int32.ofNat A)), .val (.int (Int32.ofNat B)), .val (.ref b1), .val (.int (Int32.ofNat B)), .val (.int (Int32.ofNat A)), .val (.int (-1 : Int32)), .val (.int (Int32.ofNat (min A B))), .val (.int (Int32.ofNat (max A B))), .unset, .unset, .unset]) rfl kk) ?_
      show Go _ _ _ _ _ _ _ T77 (mkF m 130 #[.val (.int i0), .val (.int i1), .val (.int i2), .val (.int i3), .val (.int (Int32.ofNat W)), .val (.int (Int32.ofNat H)), .val (.int (Int32.ofNat (W + H))), .val (.int (Int32.ofNat A)), .val (.int (Int32.ofNat B)), .val (.ref b1), .val (.int (Int32.ofNat B)), .val (.int (Int32.ofNat A)), .val (.int (-1 : Int32)), .val (.int (Int32.ofNat (min A B))), .val (.int (Int32.ofNat (max A B))), .unset, .unset, .unset] [])
      refine Go.step (fun tt kk => XS.iload X77.here hx rfl (hb hby at_130) rfl kk) ?_
      show Go _ _ _ _ _ _ _ T77 (mkF m 132 #[.val (.int i0), .val (.int i1), .val (.int i2), .val (.int i3), .val (.int (Int32.ofNat W)), .val (.int (Int32.ofNat H)), .val (.int (Int32.ofNat (W + H))), .val (.int (Int32.ofNat A)), .val (.int (Int32.ofNat B)), .val (.ref b1), .val (.int (Int32.ofNat B)), .val (.int (Int32.ofNat A)), .val (.int (-1 : Int32)), .val (.int (Int32.ofNat (min A B))), .val (.int (Int32.ofNat (max A B))), .unset, .unset, .unset] [(.int (Int32.ofNat (max A B)))])
      refine Go.step (fun tt kk => XS.iload X77.here hx rfl (hb hby at_132) rfl kk) ?_
      show Go _ _ _ _ _ _ _ T77 (mkF m 134 #[.val (.int i0), .val (.int i1), .val (.int i2), .val (.int i3), .val (.int (Int32.ofNat W)), .val (.int (Int32.ofNat H)), .val (.int (Int32.ofNat (W + H))), .val (.int (Int32.ofNat A)), .val (.int (Int32.ofNat B)), .val (.ref b1), .val (.int (Int32.ofNat B)), .val (.int (Int32.ofNat A)), .val (.int (-1 : Int32)), .val (.int (Int32.ofNat (min A B))), .val (.int (Int32.ofNat (max A B))), .unset, .unset, .unset] [(.int (Int32.ofNat (min A B))), (.int (Int32.ofNat (max A B)))])
      refine Go.step (fun tt kk => XS.icmpNo X77.here hx rfl (hb hby at_134) rfl (feq (mt (own_eq _ _ (by omega) (by omega)).mp (by omega))).1 kk) ?_
      show Go _ _ _ _ _ _ _ T77 (mkF m 137 #[.val (.int i0), .val (.int i1), .val (.int i2), .val (.int i3), .val (.int (Int32.ofNat W)), .val (.int (Int32.ofNat H)), .val (.int (Int32.ofNat (W + H))), .val (.int (Int32.ofNat A)), .val (.int (Int32.ofNat B)), .val (.ref b1), .val (.int (Int32.ofNat B)), .val (.int (Int32.ofNat A)), .val (.int (-1 : Int32)), .val (.int (Int32.ofNat (min A B))), .val (.int (Int32.ofNat (max A B))), .unset, .unset, .unset] [])
      refine Go.step (fun tt kk => XS.iload X77.here hx rfl (hb hby at_137) rfl kk) ?_
      show Go _ _ _ _ _ _ _ T77 (mkF m 139 #[.val (.int i0), .val (.int i1), .val (.int i2), .val (.int i3), .val (.int (Int32.ofNat W)), .val (.int (Int32.ofNat H)), .val (.int (Int32.ofNat (W + H))), .val (.int (Int32.ofNat A)), .val (.int (Int32.ofNat B)), .val (.ref b1), .val (.int (Int32.ofNat B)), .val (.int (Int32.ofNat A)), .val (.int (-1 : Int32)), .val (.int (Int32.ofNat (min A B))), .val (.int (Int32.ofNat (max A B))), .unset, .unset, .unset] [(.int (Int32.ofNat (max A B)))])
      refine Go.step (fun tt kk => XS.goto X77.here hx rfl (pc0 := 139) (pc' := 143) rfl (hb hby at_139) (by decide) (by decide) kk) ?_
      show Go _ _ _ _ _ _ _ T77 (mkF m 143 #[.val (.int i0), .val (.int i1), .val (.int i2), .val (.int i3), .val (.int (Int32.ofNat W)), .val (.int (Int32.ofNat H)), .val (.int (Int32.ofNat (W + H))), .val (.int (Int32.ofNat A)), .val (.int (Int32.ofNat B)), .val (.ref b1), .val (.int (Int32.ofNat B)), .val (.int (Int32.ofNat A)), .val (.int (-1 : Int32)), .val (.int (Int32.ofNat (min A B))), .val (.int (Int32.ofNat (max A B))), .unset, .unset, .unset] [(.int (Int32.ofNat (max A B)))])
      refine Go.step (fun tt kk => XS.istore X77.here hx rfl (hb hby at_143) rfl (l' := #[.val (.int i0), .val (.int i1), .val (.int i2), .val (.int i3), .val (.int (Int32.ofNat W)), .val (.int (Int32.ofNat H)), .val (.int (Int32.ofNat (W + H))), .val (.int (Int32.ofNat A)), .val (.int (Int32.ofNat B)), .val (.ref b1), .val (.int (Int32.ofNat B)), .val (.int (Int32.ofNat A)), .val (.int (-1 : Int32)), .val (.int (Int32.ofNat (min A B))), .val (.int (Int32.ofNat (max A B))), .val (.int (Int32.ofNat (max A B))), .unset, .unset]) rfl kk) ?_
      show Go _ _ _ _ _ _ _ T77 (mkF m 145 #[.val (.int i0), .val (.int i1), .val (.int i2), .val (.int i3), .val (.int (Int32.ofNat W)), .val (.int (Int32.ofNat H)), .val (.int (Int32.ofNat (W + H))), .val (.int (Int32.ofNat A)), .val (.int (Int32.ofNat B)), .val (.ref b1), .val (.int (Int32.ofNat B)), .val (.int (Int32.ofNat A)), .val (.int (-1 : Int32)), .val (.int (Int32.ofNat (min A B))), .val (.int (Int32.ofNat (max A B))), .val (.int (Int32.ofNat (max A B))), .unset, .unset] [])
      refine Go.step (fun tt kk => XS.lconst X77.here hx rfl (hb hby at_145) kk) ?_
      show Go _ _ _ _ _ _ _ T77 (mkF m 146 #[.val (.int i0), .val (.int i1), .val (.int i2), .val (.int i3), .val (.int (Int32.ofNat W)), .val (.int (Int32.ofNat H)), .val (.int (Int32.ofNat (W + H))), .val (.int (Int32.ofNat A)), .val (.int (Int32.ofNat B)), .val (.ref b1), .val (.int (Int32.ofNat B)), .val (.int (Int32.ofNat A)), .val (.int (-1 : Int32)), .val (.int (Int32.ofNat (min A B))), .val (.int (Int32.ofNat (max A B))), .val (.int (Int32.ofNat (max A B))), .unset, .unset] [(.long (1 : Int64))])
      refine Go.step (fun tt kk => XS.iload X77.here hx rfl (hb hby at_146) rfl kk) ?_
      show Go _ _ _ _ _ _ _ T77 (mkF m 148 #[.val (.int i0), .val (.int i1), .val (.int i2), .val (.int i3), .val (.int (Int32.ofNat W)), .val (.int (Int32.ofNat H)), .val (.int (Int32.ofNat (W + H))), .val (.int (Int32.ofNat A)), .val (.int (Int32.ofNat B)), .val (.ref b1), .val (.int (Int32.ofNat B)), .val (.int (Int32.ofNat A)), .val (.int (-1 : Int32)), .val (.int (Int32.ofNat (min A B))), .val (.int (Int32.ofNat (max A B))), .val (.int (Int32.ofNat (max A B))), .unset, .unset] [(.int (Int32.ofNat A)), (.long (1 : Int64))])
      refine Go.step (fun tt kk => XS.lshl X77.here hx rfl (hb hby at_148) rfl kk) ?_
      show Go _ _ _ _ _ _ _ T77 (mkF m 149 #[.val (.int i0), .val (.int i1), .val (.int i2), .val (.int i3), .val (.int (Int32.ofNat W)), .val (.int (Int32.ofNat H)), .val (.int (Int32.ofNat (W + H))), .val (.int (Int32.ofNat A)), .val (.int (Int32.ofNat B)), .val (.ref b1), .val (.int (Int32.ofNat B)), .val (.int (Int32.ofNat A)), .val (.int (-1 : Int32)), .val (.int (Int32.ofNat (min A B))), .val (.int (Int32.ofNat (max A B))), .val (.int (Int32.ofNat (max A B))), .unset, .unset] [(.long ((1 : Int64) <<< ((Int32.ofNat A) &&& 0x3f).toInt64))])
      refine Go.step (fun tt kk => XS.lconst X77.here hx rfl (hb hby at_149) kk) ?_
      show Go _ _ _ _ _ _ _ T77 (mkF m 150 #[.val (.int i0), .val (.int i1), .val (.int i2), .val (.int i3), .val (.int (Int32.ofNat W)), .val (.int (Int32.ofNat H)), .val (.int (Int32.ofNat (W + H))), .val (.int (Int32.ofNat A)), .val (.int (Int32.ofNat B)), .val (.ref b1), .val (.int (Int32.ofNat B)), .val (.int (Int32.ofNat A)), .val (.int (-1 : Int32)), .val (.int (Int32.ofNat (min A B))), .val (.int (Int32.ofNat (max A B))), .val (.int (Int32.ofNat (max A B))), .unset, .unset] [(.long (1 : Int64)), (.long ((1 : Int64) <<< ((Int32.ofNat A) &&& 0x3f).toInt64))])
      refine Go.step (fun tt kk => XS.iload X77.here hx rfl (hb hby at_150) rfl kk) ?_
      show Go _ _ _ _ _ _ _ T77 (mkF m 152 #[.val (.int i0), .val (.int i1), .val (.int i2), .val (.int i3), .val (.int (Int32.ofNat W)), .val (.int (Int32.ofNat H)), .val (.int (Int32.ofNat (W + H))), .val (.int (Int32.ofNat A)), .val (.int (Int32.ofNat B)), .val (.ref b1), .val (.int (Int32.ofNat B)), .val (.int (Int32.ofNat A)), .val (.int (-1 : Int32)), .val (.int (Int32.ofNat (min A B))), .val (.int (Int32.ofNat (max A B))), .val (.int (Int32.ofNat (max A B))), .unset, .unset] [(.int (Int32.ofNat B)), (.long (1 : Int64)), (.long ((1 : Int64) <<< ((Int32.ofNat A) &&& 0x3f).toInt64))])
      refine Go.step (fun tt kk => XS.lshl X77.here hx rfl (hb hby at_152) rfl kk) ?_
      show Go _ _ _ _ _ _ _ T77 (mkF m 153 #[.val (.int i0), .val (.int i1), .val (.int i2), .val (.int i3), .val (.int (Int32.ofNat W)), .val (.int (Int32.ofNat H)), .val (.int (Int32.ofNat (W + H))), .val (.int (Int32.ofNat A)), .val (.int (Int32.ofNat B)), .val (.ref b1), .val (.int (Int32.ofNat B)), .val (.int (Int32.ofNat A)), .val (.int (-1 : Int32)), .val (.int (Int32.ofNat (min A B))), .val (.int (Int32.ofNat (max A B))), .val (.int (Int32.ofNat (max A B))), .unset, .unset] [(.long ((1 : Int64) <<< ((Int32.ofNat B) &&& 0x3f).toInt64)), (.long ((1 : Int64) <<< ((Int32.ofNat A) &&& 0x3f).toInt64))])
      refine Go.step (fun tt kk => XS.lor X77.here hx rfl (hb hby at_153) rfl kk) ?_
      show Go _ _ _ _ _ _ _ T77 (mkF m 154 #[.val (.int i0), .val (.int i1), .val (.int i2), .val (.int i3), .val (.int (Int32.ofNat W)), .val (.int (Int32.ofNat H)), .val (.int (Int32.ofNat (W + H))), .val (.int (Int32.ofNat A)), .val (.int (Int32.ofNat B)), .val (.ref b1), .val (.int (Int32.ofNat B)), .val (.int (Int32.ofNat A)), .val (.int (-1 : Int32)), .val (.int (Int32.ofNat (min A B))), .val (.int (Int32.ofNat (max A B))), .val (.int (Int32.ofNat (max A B))), .unset, .unset] [(.long (((1 : Int64) <<< ((Int32.ofNat A) &&& 0x3f).toInt64) ||| ((1 : Int64) <<< ((Int32.ofNat B) &&& 0x3f).toInt64)))])
      refine Go.step (fun tt kk => XS.lstore X77.here hx rfl (hb hby at_154) rfl (l' := #[.val (.int i0), .val (.int i1), .val (.int i2), .val (.int i3), .val (.int (Int32.ofNat W)), .val (.int (Int32.ofNat H)), .val (.int (Int32.ofNat (W + H))), .val (.int (Int32.ofNat A)), .val (.int (Int32.ofNat B)), .val (.ref b1), .val (.int (Int32.ofNat B)), .val (.int (Int32.ofNat A)), .val (.int (-1 : Int32)), .val (.int (Int32.ofNat (min A B))), .val (.int (Int32.ofNat (max A B))), .val (.int (Int32.ofNat (max A B))), .val (.long (((1 : Int64) <<< ((Int32.ofNat A) &&& 0x3f).toInt64) ||| ((1 : Int64) <<< ((Int32.ofNat B) &&& 0x3f).toInt64))), .second]) rfl kk) ?_
      show Go _ _ _ _ _ _ _ T77 (mkF m 156 #[.val (.int i0), .val (.int i1), .val (.int i2), .val (.int i3), .val (.int (Int32.ofNat W)), .val (.int (Int32.ofNat H)), .val (.int (Int32.ofNat (W + H))), .val (.int (Int32.ofNat A)), .val (.int (Int32.ofNat B)), .val (.ref b1), .val (.int (Int32.ofNat B)), .val (.int (Int32.ofNat A)), .val (.int (-1 : Int32)), .val (.int (Int32.ofNat (min A B))), .val (.int (Int32.ofNat (max A B))), .val (.int (Int32.ofNat (max A B))), .val (.long (((1 : Int64) <<< ((Int32.ofNat A) &&& 0x3f).toInt64) ||| ((1 : Int64) <<< ((Int32.ofNat B) &&& 0x3f).toInt64))), .second] [])
      refine Go.step (fun tt kk => XS.iload X77.here hx rfl (hb hby at_156) rfl kk) ?_
      show Go _ _ _ _ _ _ _ T77 (mkF m 158 #[.val (.int i0), .val (.int i1), .val (.int i2), .val (.int i3), .val (.int (Int32.ofNat W)), .val (.int (Int32.ofNat H)), .val (.int (Int32.ofNat (W + H))), .val (.int (Int32.ofNat A)), .val (.int (Int32.ofNat B)), .val (.ref b1), .val (.int (Int32.ofNat B)), .val (.int (Int32.ofNat A)), .val (.int (-1 : Int32)), .val (.int (Int32.ofNat (min A B))), .val (.int (Int32.ofNat (max A B))), .val (.int (Int32.ofNat (max A B))), .val (.long (((1 : Int64) <<< ((Int32.ofNat A) &&& 0x3f).toInt64) ||| ((1 : Int64) <<< ((Int32.ofNat B) &&& 0x3f).toInt64))), .second] [(.int (Int32.ofNat B))])
      refine Go.step (fun tt kk => XS.iload X77.here hx rfl (hb hby at_158) rfl kk) ?_
      show Go _ _ _ _ _ _ _ T77 (mkF m 160 #[.val (.int i0), .val (.int i1), .val (.int i2), .val (.int i3), .val (.int (Int32.ofNat W)), .val (.int (Int32.ofNat H)), .val (.int (Int32.ofNat (W + H))), .val (.int (Int32.ofNat A)), .val (.int (Int32.ofNat B)), .val (.ref b1), .val (.int (Int32.ofNat B)), .val (.int (Int32.ofNat A)), .val (.int (-1 : Int32)), .val (.int (Int32.ofNat (min A B))), .val (.int (Int32.ofNat (max A B))), .val (.int (Int32.ofNat (max A B))), .val (.long (((1 : Int64) <<< ((Int32.ofNat A) &&& 0x3f).toInt64) ||| ((1 : Int64) <<< ((Int32.ofNat B) &&& 0x3f).toInt64))), .second] [(.int (Int32.ofNat (min A B))), (.int (Int32.ofNat B))])
      refine Go.step (fun tt kk => XS.icmpNo X77.here hx rfl (hb hby at_160) rfl (teq ((own_eq _ _ (by omega) (by omega)).mpr (by omega))).2 kk) ?_
      show Go _ _ _ _ _ _ _ T77 (mkF m 163 #[.val (.int i0), .val (.int i1), .val (.int i2), .val (.int i3), .val (.int (Int32.ofNat W)), .val (.int (Int32.ofNat H)), .val (.int (Int32.ofNat (W + H))), .val (.int (Int32.ofNat A)), .val (.int (Int32.ofNat B)), .val (.ref b1), .val (.int (Int32.ofNat B)), .val (.int (Int32.ofNat A)), .val (.int (-1 : Int32)), .val (.int (Int32.ofNat (min A B))), .val (.int (Int32.ofNat (max A B))), .val (.int (Int32.ofNat (max A B))), .val (.long (((1 : Int64) <<< ((Int32.ofNat A) &&& 0x3f).toInt64) ||| ((1 : Int64) <<< ((Int32.ofNat B) &&& 0x3f).toInt64))), .second] [])
      refine Go.step (fun tt kk => XS.iload X77.here hx rfl (hb hby at_163) rfl kk) ?_
      show Go _ _ _ _ _ _ _ T77 (mkF m 165 #[.val (.int i0), .val (.int i1), .val (.int i2), .val (.int i3), .val (.int (Int32.ofNat W)), .val (.int (Int32.ofNat H)), .val (.int (Int32.ofNat (W + H))), .val (.int (Int32.ofNat A)), .val (.int (Int32.ofNat B)), .val (.ref b1), .val (.int (Int32.ofNat B)), .val (.int (Int32.ofNat A)), .val (.int (-1 : Int32)), .val (.int (Int32.ofNat (min A B))), .val (.int (Int32.ofNat (max A B))), .val (.int (Int32.ofNat (max A B))), .val (.long (((1 : Int64) <<< ((Int32.ofNat A) &&& 0x3f).toInt64) ||| ((1 : Int64) <<< ((Int32.ofNat B) &&& 0x3f).toInt64))), .second] [(.int (Int32.ofNat A))])
      refine Go.step (fun tt kk => XS.iload X77.here hx rfl (hb hby at_165) rfl kk) ?_
      show Go _ _ _ _ _ _ _ T77 (mkF m 167 #[.val (.int i0), .val (.int i1), .val (.int i2), .val (.int i3), .val (.int (Int32.ofNat W)), .val (.int (Int32.ofNat H)), .val (.int (Int32.ofNat (W + H))), .val (.int (Int32.ofNat A)), .val (.int (Int32.ofNat B)), .val (.ref b1), .val (.int (Int32.ofNat B)), .val (.int (Int32.ofNat A)), .val (.int (-1 : Int32)), .val (.int (Int32.ofNat (min A B))), .val (.int (Int32.ofNat (max A B))), .val (.int (Int32.ofNat (max A B))), .val (.long (((1 : Int64) <<< ((Int32.ofNat A) &&& 0x3f).toInt64) ||| ((1 : Int64) <<< ((Int32.ofNat B) &&& 0x3f).toInt64))), .second] [(.int (Int32.ofNat (max A B))), (.int (Int32.ofNat A))])
      refine Go.step (fun tt kk => XS.icmpNo X77.here hx rfl (hb hby at_167) rfl (teq ((own_eq _ _ (by omega) (by omega)).mpr (by omega))).2 kk) ?_
      show Go _ _ _ _ _ _ _ T77 (mkF m 170 #[.val (.int i0), .val (.int i1), .val (.int i2), .val (.int i3), .val (.int (Int32.ofNat W)), .val (.int (Int32.ofNat H)), .val (.int (Int32.ofNat (W + H))), .val (.int (Int32.ofNat A)), .val (.int (Int32.ofNat B)), .val (.ref b1), .val (.int (Int32.ofNat B)), .val (.int (Int32.ofNat A)), .val (.int (-1 : Int32)), .val (.int (Int32.ofNat (min A B))), .val (.int (Int32.ofNat (max A B))), .val (.int (Int32.ofNat (max A B))), .val (.long (((1 : Int64) <<< ((Int32.ofNat A) &&& 0x3f).toInt64) ||| ((1 : Int64) <<< ((Int32.ofNat B) &&& 0x3f).toInt64))), .second] [])
      refine Go.step (fun tt kk => XS.iload X77.here hx rfl (hb hby at_170) rfl kk) ?_
      show Go _ _ _ _ _ _ _ T77 (mkF m 172 #[.val (.int i0), .val (.int i1), .val (.int i2), .val (.int i3), .val (.int (Int32.ofNat W)), .val (.int (Int32.ofNat H)), .val (.int (Int32.ofNat (W + H))), .val (.int (Int32.ofNat A)), .val (.int (Int32.ofNat B)), .val (.ref b1), .val (.int (Int32.ofNat B)), .val (.int (Int32.ofNat A)), .val (.int (-1 : Int32)), .val (.int (Int32.ofNat (min A B))), .val (.int (Int32.ofNat (max A B))), .val (.int (Int32.ofNat (max A B))), .val (.long (((1 : Int64) <<< ((Int32.ofNat A) &&& 0x3f).toInt64) ||| ((1 : Int64) <<< ((Int32.ofNat B) &&& 0x3f).toInt64))), .second] [(.int (-1 : Int32))])
      refine Go.step (fun tt kk => XS.iconst X77.here hx rfl (hb hby at_172) kk) ?_
      show Go _ _ _ _ _ _ _ T77 (mkF m 173 #[.val (.int i0), .val (.int i1), .val (.int i2), .val (.int i3), .val (.int (Int32.ofNat W)), .val (.int (Int32.ofNat H)), .val (.int (Int32.ofNat (W + H))), .val (.int (Int32.ofNat A)), .val (.int (Int32.ofNat B)), .val (.ref b1), .val (.int (Int32.ofNat B)), .val (.int (Int32.ofNat A)), .val (.int (-1 : Int32)), .val (.int (Int32.ofNat (min A B))), .val (.int (Int32.ofNat (max A B))), .val (.int (Int32.ofNat (max A B))), .val (.long (((1 : Int64) <<< ((Int32.ofNat A) &&& 0x3f).toInt64) ||| ((1 : Int64) <<< ((Int32.ofNat B) &&& 0x3f).toInt64))), .second] [(.int (-1 : Int32)), (.int (-1 : Int32))])
      refine Go.step (fun tt kk => XS.icmpNo X77.here hx rfl (hb hby at_173) rfl (teq rfl).2 kk) ?_
      show Go _ _ _ _ _ _ _ T77 (mkF m 176 #[.val (.int i0), .val (.int i1), .val (.int i2), .val (.int i3), .val (.int (Int32.ofNat W)), .val (.int (Int32.ofNat H)), .val (.int (Int32.ofNat (W + H))), .val (.int (Int32.ofNat A)), .val (.int (Int32.ofNat B)), .val (.ref b1), .val (.int (Int32.ofNat B)), .val (.int (Int32.ofNat A)), .val (.int (-1 : Int32)), .val (.int (Int32.ofNat (min A B))), .val (.int (Int32.ofNat (max A B))), .val (.int (Int32.ofNat (max A B))), .val (.long (((1 : Int64) <<< ((Int32.ofNat A) &&& 0x3f).toInt64) ||| ((1 : Int64) <<< ((Int32.ofNat B) &&& 0x3f).toInt64))), .second] [])
      refine Go.step (fun tt kk => XS.aload X77.here hx rfl (hb hby at_176) rfl rfl kk) ?_
      show Go _ _ _ _ _ _ _ T77 (mkF m 178 #[.val (.int i0), .val (.int i1), .val (.int i2), .val (.int i3), .val (.int (Int32.ofNat W)), .val (.int (Int32.ofNat H)), .val (.int (Int32.ofNat (W + H))), .val (.int (Int32.ofNat A)), .val (.int (Int32.ofNat B)), .val (.ref b1), .val (.int (Int32.ofNat B)), .val (.int (Int32.ofNat A)), .val (.int (-1 : Int32)), .val (.int (Int32.ofNat (min A B))), .val (.int (Int32.ofNat (max A B))), .val (.int (Int32.ofNat (max A B))), .val (.long (((1 : Int64) <<< ((Int32.ofNat A) &&& 0x3f).toInt64) ||| ((1 : Int64) <<< ((Int32.ofNat B) &&& 0x3f).toInt64))), .second] [(.ref b1)])
      obtain ⟨v78, T78, L78, X78, q78, st78⟩ := c_virtUp X77 hx hZ hown (y' := (⟨"com/example/gridwright/gridwright/engine/SmallDraft", "taken", "()J"⟩ : MethodName)) (y := (⟨"com/example/gridwright/gridwright/engine/Draft", "taken", "()J"⟩ : MethodName)) (C := "com/example/gridwright/gridwright/engine/SmallDraft") (owner := "com/example/gridwright/gridwright/engine/Draft") (hw _ (List.mem_of_getElem? (i := 121) rfl)) (hw _ (List.mem_of_getElem? (i := 122) rfl)) (hw _ (List.mem_of_getElem? (i := 123) rfl)) (hw _ (List.mem_of_getElem? (i := 125) rfl)) (hw _ (List.mem_of_getElem? (i := 124) rfl)) (hw _ (List.mem_of_getElem? (i := 10) rfl)) (hw _ (List.mem_of_getElem? (i := 126) rfl)) (by decide) (a := b1) (argsL := []) (rest := []) (rmTk l Z a0 hw [] b1 (((0 : Int64) ||| (sh (Int32.ofNat B))) ||| (sh (Int32.ofNat A))) h75 n0 Z75 F75q2) e77 E75q pd_7 rfl (by rw [hml]; rfl) (W := 0) (by show 2 * 0 + _ ≤ _; exact Nat.le_of_eq rfl) (by decide) (by decide) (by decide) (by decide) (hb hby at_178) (Ls := #[.val (.int i0), .val (.int i1), .val (.int i2), .val (.int i3), .val (.int (Int32.ofNat W)), .val (.int (Int32.ofNat H)), .val (.int (Int32.ofNat (W + H))), .val (.int (Int32.ofNat A)), .val (.int (Int32.ofNat B)), .val (.ref b1), .val (.int (Int32.ofNat B)), .val (.int (Int32.ofNat A)), .val (.int (-1 : Int32)), .val (.int (Int32.ofNat (min A B))), .val (.int (Int32.ofNat (max A B))), .val (.int (Int32.ofNat (max A B))), .val (.long (((1 : Int64) <<< ((Int32.ofNat A) &&& 0x3f).toInt64) ||| ((1 : Int64) <<< ((Int32.ofNat B) &&& 0x3f).toInt64))), .second])
      obtain ⟨rfl, rfl, e78⟩ := q78
      have N78 := Fr.app N77 (Fr.nil n0)
      refine Go.step (st78) ?_
      show Go _ _ _ _ _ _ _ T78 (mkF m 181 #[.val (.int i0), .val (.int i1), .val (.int i2), .val (.int i3), .val (.int (Int32.ofNat W)), .val (.int (Int32.ofNat H)), .val (.int (Int32.ofNat (W + H))), .val (.int (Int32.ofNat A)), .val (.int (Int32.ofNat B)), .val (.ref b1), .val (.int (Int32.ofNat B)), .val (.int (Int32.ofNat A)), .val (.int (-1 : Int32)), .val (.int (Int32.ofNat (min A B))), .val (.int (Int32.ofNat (max A B))), .val (.int (Int32.ofNat (max A B))), .val (.long (((1 : Int64) <<< ((Int32.ofNat A) &&& 0x3f).toInt64) ||| ((1 : Int64) <<< ((Int32.ofNat B) &&& 0x3f).toInt64))), .second] [(.long (((0 : Int64) ||| (sh (Int32.ofNat B))) ||| (sh (Int32.ofNat A))))])
      refine Go.step (fun tt kk => XS.lload X78.here hx rfl (hb hby at_181) rfl kk) ?_
      show Go _ _ _ _ _ _ _ T78 (mkF m 183 #[.val (.int i0), .val (.int i1), .val (.int i2), .val (.int i3), .val (.int (Int32.ofNat W)), .val (.int (Int32.ofNat H)), .val (.int (Int32.ofNat (W + H))), .val (.int (Int32.ofNat A)), .val (.int (Int32.ofNat B)), .val (.ref b1), .val (.int (Int32.ofNat B)), .val (.int (Int32.ofNat A)), .val (.int (-1 : Int32)), .val (.int (Int32.ofNat (min A B))), .val (.int (Int32.ofNat (max A B))), .val (.int (Int32.ofNat (max A B))), .val (.long (((1 : Int64) <<< ((Int32.ofNat A) &&& 0x3f).toInt64) ||| ((1 : Int64) <<< ((Int32.ofNat B) &&& 0x3f).toInt64))), .second] [(.long (((1 : Int64) <<< ((Int32.ofNat A) &&& 0x3f).toInt64) ||| ((1 : Int64) <<< ((Int32.ofNat B) &&& 0x3f).toInt64))), (.long (((0 : Int64) ||| (sh (Int32.ofNat B))) ||| (sh (Int32.ofNat A))))])
      refine Go.step (fun tt kk => XS.lcmp X78.here hx rfl (hb hby at_183) rfl kk) ?_
      show Go _ _ _ _ _ _ _ T78 (mkF m 184 #[.val (.int i0), .val (.int i1), .val (.int i2), .val (.int i3), .val (.int (Int32.ofNat W)), .val (.int (Int32.ofNat H)), .val (.int (Int32.ofNat (W + H))), .val (.int (Int32.ofNat A)), .val (.int (Int32.ofNat B)), .val (.ref b1), .val (.int (Int32.ofNat B)), .val (.int (Int32.ofNat A)), .val (.int (-1 : Int32)), .val (.int (Int32.ofNat (min A B))), .val (.int (Int32.ofNat (max A B))), .val (.int (Int32.ofNat (max A B))), .val (.long (((1 : Int64) <<< ((Int32.ofNat A) &&& 0x3f).toInt64) ||| ((1 : Int64) <<< ((Int32.ofNat B) &&& 0x3f).toInt64))), .second] [(.int (lcmpW (((0 : Int64) ||| (sh (Int32.ofNat B))) ||| (sh (Int32.ofNat A))) (((1 : Int64) <<< ((Int32.ofNat A) &&& 0x3f).toInt64) ||| ((1 : Int64) <<< ((Int32.ofNat B) &&& 0x3f).toInt64))))])
      refine Go.step (fun tt kk => XS.ifNo X78.here hx rfl (hb hby at_184) rfl ((if0 _ _).trans (teq ((lw_eq _ _).mpr (by rw [own_or0, Int64.or_comm]))).2) kk) ?_
      show Go _ _ _ _ _ _ _ T78 (mkF m 187 #[.val (.int i0), .val (.int i1), .val (.int i2), .val (.int i3), .val (.int (Int32.ofNat W)), .val (.int (Int32.ofNat H)), .val (.int (Int32.ofNat (W + H))), .val (.int (Int32.ofNat A)), .val (.int (Int32.ofNat B)), .val (.ref b1), .val (.int (Int32.ofNat B)), .val (.int (Int32.ofNat A)), .val (.int (-1 : Int32)), .val (.int (Int32.ofNat (min A B))), .val (.int (Int32.ofNat (max A B))), .val (.int (Int32.ofNat (max A B))), .val (.long (((1 : Int64) <<< ((Int32.ofNat A) &&& 0x3f).toInt64) ||| ((1 : Int64) <<< ((Int32.ofNat B) &&& 0x3f).toInt64))), .second] [])
      refine Go.step (fun tt kk => XS.iconst X78.here hx rfl (hb hby at_187) kk) ?_
      show Go _ _ _ _ _ _ _ T78 (mkF m 188 #[.val (.int i0), .val (.int i1), .val (.int i2), .val (.int i3), .val (.int (Int32.ofNat W)), .val (.int (Int32.ofNat H)), .val (.int (Int32.ofNat (W + H))), .val (.int (Int32.ofNat A)), .val (.int (Int32.ofNat B)), .val (.ref b1), .val (.int (Int32.ofNat B)), .val (.int (Int32.ofNat A)), .val (.int (-1 : Int32)), .val (.int (Int32.ofNat (min A B))), .val (.int (Int32.ofNat (max A B))), .val (.int (Int32.ofNat (max A B))), .val (.long (((1 : Int64) <<< ((Int32.ofNat A) &&& 0x3f).toInt64) ||| ((1 : Int64) <<< ((Int32.ofNat B) &&& 0x3f).toInt64))), .second] [(.int (1 : Int32))])
      refine Go.step (fun tt kk => XS.goto X78.here hx rfl (pc0 := 188) (pc' := 192) rfl (hb hby at_188) (by decide) (by decide) kk) ?_
      show Go _ _ _ _ _ _ _ T78 (mkF m 192 #[.val (.int i0), .val (.int i1), .val (.int i2), .val (.int i3), .val (.int (Int32.ofNat W)), .val (.int (Int32.ofNat H)), .val (.int (Int32.ofNat (W + H))), .val (.int (Int32.ofNat A)), .val (.int (Int32.ofNat B)), .val (.ref b1), .val (.int (Int32.ofNat B)), .val (.int (Int32.ofNat A)), .val (.int (-1 : Int32)), .val (.int (Int32.ofNat (min A B))), .val (.int (Int32.ofNat (max A B))), .val (.int (Int32.ofNat (max A B))), .val (.long (((1 : Int64) <<< ((Int32.ofNat A) &&& 0x3f).toInt64) ||| ((1 : Int64) <<< ((Int32.ofNat B) &&& 0x3f).toInt64))), .second] [(.int (1 : Int32))])
      refine go_retN X78 hx (t := .boolean) hret (by simp) hlk (hb hby at_192) (w := (1 : Int32)) rfl ?_ (by decide) (by decide)
      try rw [e78]
      exact ⟨rfl, N78⟩
    · by_cases hAB : A = B
      · show Go _ _ _ _ _ _ _ T5 (mkF m 70 #[.val (.int i0), .val (.int i1), .val (.int i2), .val (.int i3), .val (.int (Int32.ofNat W)), .val (.int (Int32.ofNat H)), .val (.int (Int32.ofNat (W + H))), .val (.int (Int32.ofNat A)), .val (.int (Int32.ofNat B)), .val (.ref b1), .unset, .unset, .unset, .unset, .unset, .unset, .unset, .unset] [])
        refine Go.step (fun tt kk => XS.aload X5.here hx rfl (hb hby at_70) rfl rfl kk) ?_
        show Go _ _ _ _ _ _ _ T5 (mkF m 72 #[.val (.int i0), .val (.int i1), .val (.int i2), .val (.int i3), .val (.int (Int32.ofNat W)), .val (.int (Int32.ofNat H)), .val (.int (Int32.ofNat (W + H))), .val (.int (Int32.ofNat A)), .val (.int (Int32.ofNat B)), .val (.ref b1), .unset, .unset, .unset, .unset, .unset, .unset, .unset, .unset] [(.ref b1)])
        refine Go.step (fun tt kk => XS.iload X5.here hx rfl (hb hby at_72) rfl kk) ?_
        show Go _ _ _ _ _ _ _ T5 (mkF m 74 #[.val (.int i0), .val (.int i1), .val (.int i2), .val (.int i3), .val (.int (Int32.ofNat W)), .val (.int (Int32.ofNat H)), .val (.int (Int32.ofNat (W + H))), .val (.int (Int32.ofNat A)), .val (.int (Int32.ofNat B)), .val (.ref b1), .unset, .unset, .unset, .unset, .unset, .unset, .unset, .unset] [(.int (Int32.ofNat A)), (.ref b1)])
        obtain ⟨v79, T79, L79, X79, q79, st79⟩ := c_virt X5 hx hZ hown (y' := (⟨"com/example/gridwright/gridwright/engine/SmallDraft", "await", "(I)V"⟩ : MethodName)) (y := (⟨"com/example/gridwright/gridwright/engine/SmallDraft", "await", "(I)V"⟩ : MethodName)) (C := "com/example/gridwright/gridwright/engine/SmallDraft") (hw _ (List.mem_of_getElem? (i := 94) rfl)) (hw _ (List.mem_of_getElem? (i := 95) rfl)) (notFace_of_selects (args := #[]) (mvT hZ (hw _ (List.mem_of_getElem? (i := 97) rfl)))) (hw _ (List.mem_of_getElem? (i := 97) rfl)) (hw _ (List.mem_of_getElem? (i := 96) rfl)) (hw _ (List.mem_of_getElem? (i := 3) rfl)) (hw _ (List.mem_of_getElem? (i := 98) rfl)) (by decide) (a := b1) (argsL := [(.int (Int32.ofNat A))]) (rest := []) (rmAc l Z a0 hw [] b1 A W H (0 : Int64) (0 : Int32) (.ref b3) x2_0 x2_1 (0 : Int64) (0 : Int64) (1 : Int32) h5 n0 Z5 E5q F5q0 F5q1 F5q2 F5q3 F5q4 F5q5 F5q6 F5q7 F5q8 F5q9 F5q10 F5q11 gn_b1 (by omega) (by omega) hA0) e5 E5q pd_6 rfl (by rw [hml]; rfl) (W := 0) (by show 2 * 0 + _ ≤ _; exact Nat.le_of_eq rfl) (by decide) (by decide) (by decide) (by decide) (hb hby at_74) (Ls := #[.val (.int i0), .val (.int i1), .val (.int i2), .val (.int i3), .val (.int (Int32.ofNat W)), .val (.int (Int32.ofNat H)), .val (.int (Int32.ofNat (W + H))), .val (.int (Int32.ofNat A)), .val (.int (Int32.ofNat B)), .val (.ref b1), .unset, .unset, .unset, .unset, .unset, .unset, .unset, .unset])
        generalize e79 : T79.heap = h79 at q79
        obtain ⟨rfl, N79q, K79q, E79q, F79q0, F79q1, F79q2, F79q3, F79q4, F79q5, F79q6, F79q7, F79q8, F79q9, F79q10, F79q11⟩ := q79
        have N79 := Fr.app N5 N79q
        have Z79 : n0 ≤ h79.size := Nat.le_trans Z5 K79q.1
        refine Go.step (st79) ?_
        show Go _ _ _ _ _ _ _ T79 (mkF m 77 #[.val (.int i0), .val (.int i1), .val (.int i2), .val (.int i3), .val (.int (Int32.ofNat W)), .val (.int (Int32.ofNat H)), .val (.int (Int32.ofNat (W + H))), .val (.int (Int32.ofNat A)), .val (.int (Int32.ofNat B)), .val (.ref b1), .unset, .unset, .unset, .unset, .unset, .unset, .unset, .unset] [])
        refine Go.step (fun tt kk => XS.aload X79.here hx rfl (hb hby at_77) rfl rfl kk) ?_
        show Go _ _ _ _ _ _ _ T79 (mkF m 79 #[.val (.int i0), .val (.int i1), .val (.int i2), .val (.int i3), .val (.int (Int32.ofNat W)), .val (.int (Int32.ofNat H)), .val (.int (Int32.ofNat (W + H))), .val (.int (Int32.ofNat A)), .val (.int (Int32.ofNat B)), .val (.ref b1), .unset, .unset, .unset, .unset, .unset, .unset, .unset, .unset] [(.ref b1)])
        refine Go.step (fun tt kk => XS.iload X79.here hx rfl (hb hby at_79) rfl kk) ?_
        show Go _ _ _ _ _ _ _ T79 (mkF m 81 #[.val (.int i0), .val (.int i1), .val (.int i2), .val (.int i3), .val (.int (Int32.ofNat W)), .val (.int (Int32.ofNat H)), .val (.int (Int32.ofNat (W + H))), .val (.int (Int32.ofNat A)), .val (.int (Int32.ofNat B)), .val (.ref b1), .unset, .unset, .unset, .unset, .unset, .unset, .unset, .unset] [(.int (Int32.ofNat B)), (.ref b1)])
        obtain ⟨v80, T80, L80, X80, q80, st80⟩ := c_virt X79 hx hZ hown (y' := (⟨"com/example/gridwright/gridwright/engine/SmallDraft", "await", "(I)V"⟩ : MethodName)) (y := (⟨"com/example/gridwright/gridwright/engine/SmallDraft", "await", "(I)V"⟩ : MethodName)) (C := "com/example/gridwright/gridwright/engine/SmallDraft") (hw _ (List.mem_of_getElem? (i := 94) rfl)) (hw _ (List.mem_of_getElem? (i := 95) rfl)) (notFace_of_selects (args := #[]) (mvT hZ (hw _ (List.mem_of_getElem? (i := 97) rfl)))) (hw _ (List.mem_of_getElem? (i := 97) rfl)) (hw _ (List.mem_of_getElem? (i := 96) rfl)) (hw _ (List.mem_of_getElem? (i := 3) rfl)) (hw _ (List.mem_of_getElem? (i := 98) rfl)) (by decide) (a := b1) (argsL := [(.int (Int32.ofNat B))]) (rest := []) (rmAc l Z a0 hw [] b1 B W H (0 : Int64) (0 : Int32) (.ref b3) x2_0 x2_1 (0 : Int64) ((0 : Int64) ||| (sh (Int32.ofNat (A - H)))) (1 : Int32) h79 n0 Z79 E79q F79q0 F79q1 F79q2 F79q3 F79q4 F79q5 F79q6 F79q7 F79q8 F79q9 F79q10 F79q11 gn_b1 (by omega) (by omega) hB0) e79 E79q pd_6 rfl (by rw [hml]; rfl) (W := 0) (by show 2 * 0 + _ ≤ _; exact Nat.le_of_eq rfl) (by decide) (by decide) (by decide) (by decide) (hb hby at_81) (Ls := #[.val (.int i0), .val (.int i1), .val (.int i2), .val (.int i3), .val (.int (Int32.ofNat W)), .val (.int (Int32.ofNat H)), .val (.int (Int32.ofNat (W + H))), .val (.int (Int32.ofNat A)), .val (.int (Int32.ofNat B)), .val (.ref b1), .unset, .unset, .unset, .unset, .unset, .unset, .unset, .unset])
        generalize e80 : T80.heap = h80 at q80
        obtain ⟨rfl, N80q, K80q, E80q, F80q0, F80q1, F80q2, F80q3, F80q4, F80q5, F80q6, F80q7, F80q8, F80q9, F80q10, F80q11⟩ := q80
        have N80 := Fr.app N79 N80q
        have Z80 : n0 ≤ h80.size := Nat.le_trans Z79 K80q.1
        refine Go.step (st80) ?_
        show Go _ _ _ _ _ _ _ T80 (mkF m 84 #[.val (.int i0), .val (.int i1), .val (.int i2), .val (.int i3), .val (.int (Int32.ofNat W)), .val (.int (Int32.ofNat H)), .val (.int (Int32.ofNat (W + H))), .val (.int (Int32.ofNat A)), .val (.int (Int32.ofNat B)), .val (.ref b1), .unset, .unset, .unset, .unset, .unset, .unset, .unset, .unset] [])
        refine Go.step (fun tt kk => XS.aload X80.here hx rfl (hb hby at_84) rfl rfl kk) ?_
        show Go _ _ _ _ _ _ _ T80 (mkF m 86 #[.val (.int i0), .val (.int i1), .val (.int i2), .val (.int i3), .val (.int (Int32.ofNat W)), .val (.int (Int32.ofNat H)), .val (.int (Int32.ofNat (W + H))), .val (.int (Int32.ofNat A)), .val (.int (Int32.ofNat B)), .val (.ref b1), .unset, .unset, .unset, .unset, .unset, .unset, .unset, .unset] [(.ref b1)])
        refine Go.step (fun tt kk => XS.iload X80.here hx rfl (hb hby at_86) rfl kk) ?_
        show Go _ _ _ _ _ _ _ T80 (mkF m 88 #[.val (.int i0), .val (.int i1), .val (.int i2), .val (.int i3), .val (.int (Int32.ofNat W)), .val (.int (Int32.ofNat H)), .val (.int (Int32.ofNat (W + H))), .val (.int (Int32.ofNat A)), .val (.int (Int32.ofNat B)), .val (.ref b1), .unset, .unset, .unset, .unset, .unset, .unset, .unset, .unset] [(.int (Int32.ofNat A)), (.ref b1)])
        obtain ⟨v81, T81, L81, X81, q81, st81⟩ := c_virt X80 hx hZ hown (y' := (⟨"com/example/gridwright/gridwright/engine/SmallDraft", "await", "(I)V"⟩ : MethodName)) (y := (⟨"com/example/gridwright/gridwright/engine/SmallDraft", "await", "(I)V"⟩ : MethodName)) (C := "com/example/gridwright/gridwright/engine/SmallDraft") (hw _ (List.mem_of_getElem? (i := 94) rfl)) (hw _ (List.mem_of_getElem? (i := 95) rfl)) (notFace_of_selects (args := #[]) (mvT hZ (hw _ (List.mem_of_getElem? (i := 97) rfl)))) (hw _ (List.mem_of_getElem? (i := 97) rfl)) (hw _ (List.mem_of_getElem? (i := 96) rfl)) (hw _ (List.mem_of_getElem? (i := 3) rfl)) (hw _ (List.mem_of_getElem? (i := 98) rfl)) (by decide) (a := b1) (argsL := [(.int (Int32.ofNat A))]) (rest := []) (rmAc l Z a0 hw [] b1 A W H (0 : Int64) (0 : Int32) (.ref b3) x2_0 x2_1 (0 : Int64) (((0 : Int64) ||| (sh (Int32.ofNat (A - H)))) ||| (sh (Int32.ofNat (B - H)))) (1 : Int32) h80 n0 Z80 E80q F80q0 F80q1 F80q2 F80q3 F80q4 F80q5 F80q6 F80q7 F80q8 F80q9 F80q10 F80q11 gn_b1 (by omega) (by omega) hA0) e80 E80q pd_6 rfl (by rw [hml]; rfl) (W := 0) (by show 2 * 0 + _ ≤ _; exact Nat.le_of_eq rfl) (by decide) (by decide) (by decide) (by decide) (hb hby at_88) (Ls := #[.val (.int i0), .val (.int i1), .val (.int i2), .val (.int i3), .val (.int (Int32.ofNat W)), .val (.int (Int32.ofNat H)), .val (.int (Int32.ofNat (W + H))), .val (.int (Int32.ofNat A)), .val (.int (Int32.ofNat B)), .val (.ref b1), .unset, .unset, .unset, .unset, .unset, .unset, .unset, .unset])
        generalize e81 : T81.heap = h81 at q81
        obtain ⟨rfl, N81q, K81q, E81q, F81q0, F81q1, F81q2, F81q3, F81q4, F81q5, F81q6, F81q7, F81q8, F81q9, F81q10, F81q11⟩ := q81
        have N81 := Fr.app N80 N81q
        have Z81 : n0 ≤ h81.size := Nat.le_trans Z80 K81q.1
        refine Go.step (st81) ?_
        show Go _ _ _ _ _ _ _ T81 (mkF m 91 #[.val (.int i0), .val (.int i1), .val (.int i2), .val (.int i3), .val (.int (Int32.ofNat W)), .val (.int (Int32.ofNat H)), .val (.int (Int32.ofNat (W + H))), .val (.int (Int32.ofNat A)), .val (.int (Int32.ofNat B)), .val (.ref b1), .unset, .unset, .unset, .unset, .unset, .unset, .unset, .unset] [])
        have f82 : Fld Z h81 b1 "com/example/gridwright/gridwright/engine/SmallDraft" "waitingColumns" "J" (.long ((sh (Int32.ofNat (A - H))) ||| (sh (Int32.ofNat (B - H))))) := by
          have q := F81q10
          rwa [own_or0, own_3] at q
        have f83 : Fld Z h81 b1 "com/example/gridwright/gridwright/engine/SmallDraft" "rows" "Z" (.int (bi (true = true))) := by
          have q := F81q11
          exact q
        obtain ⟨t1, t2, t3⟩ := own_bits1 ⟨A - H, by omega⟩ ⟨B - H, by omega⟩
        obtain ⟨u1, u2, u3⟩ := own_one ⟨max (A - H) (B - H), by omega⟩
        dsimp only at t1 t2 t3 u1 u2 u3
        refine Go.step (fun tt kk => XS.aload X81.here hx rfl (hb hby at_91) rfl rfl kk) ?_
        show Go _ _ _ _ _ _ _ T81 (mkF m 93 #[.val (.int i0), .val (.int i1), .val (.int i2), .val (.int i3), .val (.int (Int32.ofNat W)), .val (.int (Int32.ofNat H)), .val (.int (Int32.ofNat (W + H))), .val (.int (Int32.ofNat A)), .val (.int (Int32.ofNat B)), .val (.ref b1), .unset, .unset, .unset, .unset, .unset, .unset, .unset, .unset] [(.ref b1)])
        obtain ⟨v84, T84, L84, X84, q84, st84⟩ := c_virt X81 hx hZ hown (y' := (⟨"com/example/gridwright/gridwright/engine/SmallDraft", "next", "()I"⟩ : MethodName)) (y := (⟨"com/example/gridwright/gridwright/engine/SmallDraft", "next", "()I"⟩ : MethodName)) (C := "com/example/gridwright/gridwright/engine/SmallDraft") (hw _ (List.mem_of_getElem? (i := 101) rfl)) (hw _ (List.mem_of_getElem? (i := 102) rfl)) (notFace_of_selects (args := #[]) (mvT hZ (hw _ (List.mem_of_getElem? (i := 104) rfl)))) (hw _ (List.mem_of_getElem? (i := 104) rfl)) (hw _ (List.mem_of_getElem? (i := 103) rfl)) (hw _ (List.mem_of_getElem? (i := 3) rfl)) (hw _ (List.mem_of_getElem? (i := 105) rfl)) (by decide) (a := b1) (argsL := []) (rest := []) (rmNc l Z a0 hw [] b1 W H (0 : Int64) (0 : Int32) (.ref b3) x2_0 x2_1 (0 : Int64) ((sh (Int32.ofNat (A - H))) ||| (sh (Int32.ofNat (B - H)))) true h81 n0 Z81 E81q F81q0 F81q1 F81q2 F81q3 F81q4 F81q5 F81q6 F81q7 F81q8 F81q9 f82 f83 gn_b1 t2 (Or.inr rfl)) e81 E81q pd_3 rfl (by rw [hml]; rfl) (W := 0) (by show 2 * 0 + _ ≤ _; exact Nat.le_of_eq rfl) (by decide) (by decide) (by decide) (by decide) (hb hby at_93) (Ls := #[.val (.int i0), .val (.int i1), .val (.int i2), .val (.int i3), .val (.int (Int32.ofNat W)), .val (.int (Int32.ofNat H)), .val (.int (Int32.ofNat (W + H))), .val (.int (Int32.ofNat A)), .val (.int (Int32.ofNat B)), .val (.ref b1), .unset, .unset, .unset, .unset, .unset, .unset, .unset, .unset])
        generalize e84 : T84.heap = h84 at q84
        obtain ⟨rfl, N84q, K84q, E84q, F84q0, F84q1, F84q2, F84q3, F84q4, F84q5, F84q6, F84q7, F84q8, F84q9, F84q10, F84q11⟩ := q84
        have N84 := Fr.app N81 N84q
        have Z84 : n0 ≤ h84.size := Nat.le_trans Z81 K84q.1
        refine Go.step (st84) ?_
        show Go _ _ _ _ _ _ _ T84 (mkF m 96 #[.val (.int i0), .val (.int i1), .val (.int i2), .val (.int i3), .val (.int (Int32.ofNat W)), .val (.int (Int32.ofNat H)), .val (.int (Int32.ofNat (W + H))), .val (.int (Int32.ofNat A)), .val (.int (Int32.ofNat B)), .val (.ref b1), .unset, .unset, .unset, .unset, .unset, .unset, .unset, .unset] [(.int (Int32.ofNat H + ntz ((sh (Int32.ofNat (A - H))) ||| (sh (Int32.ofNat (B - H))))))])
        refine Go.step (fun tt kk => XS.istore X84.here hx rfl (hb hby at_96) rfl (l' := #[.val (.int i0), .val (.int i1), .val (.int i2), .val (.int i3), .val (.int (Int32.ofNat W)), .val (.int (Int32.ofNat H)), .val (.int (Int32.ofNat (W + H))), .val (.int (Int32.ofNat A)), .val (.int (Int32.ofNat B)), .val (.ref b1), .val (.int (Int32.ofNat H + ntz ((sh (Int32.ofNat (A - H))) ||| (sh (Int32.ofNat (B - H)))))), .unset, .unset, .unset, .unset, .unset, .unset, .unset]) rfl kk) ?_
        show Go _ _ _ _ _ _ _ T84 (mkF m 98 #[.val (.int i0), .val (.int i1), .val (.int i2), .val (.int i3), .val (.int (Int32.ofNat W)), .val (.int (Int32.ofNat H)), .val (.int (Int32.ofNat (W + H))), .val (.int (Int32.ofNat A)), .val (.int (Int32.ofNat B)), .val (.ref b1), .val (.int (Int32.ofNat H + ntz ((sh (Int32.ofNat (A - H))) ||| (sh (Int32.ofNat (B - H)))))), .unset, .unset, .unset, .unset, .unset, .unset, .unset] [])
        rw [t1, ← Int32.ofNat_add, show H + min (A - H) (B - H) = min A B by omega]
        show Go _ _ _ _ _ _ _ T84 (mkF m 98 #[.val (.int i0), .val (.int i1), .val (.int i2), .val (.int i3), .val (.int (Int32.ofNat W)), .val (.int (Int32.ofNat H)), .val (.int (Int32.ofNat (W + H))), .val (.int (Int32.ofNat A)), .val (.int (Int32.ofNat B)), .val (.ref b1), .val (.int (Int32.ofNat (min A B))), .unset, .unset, .unset, .unset, .unset, .unset, .unset] [])
        have f85 : Fld Z h84 b1 "com/example/gridwright/gridwright/engine/SmallDraft" "waitingColumns" "J" (.long (0 : Int64)) := by
          have q := F84q10
          rwa [t3, if_pos (show A - H = B - H by omega)] at q
        have f86 : Fld Z h84 b1 "com/example/gridwright/gridwright/engine/Draft" "taken" "J" (.long ((0 : Int64) ||| (sh (Int32.ofNat (min A B))))) := by
          have q := F84q2
          rwa [t1, ← Int32.ofNat_add, show H + min (A - H) (B - H) = min A B by omega] at q
        refine Go.step (fun tt kk => XS.aload X84.here hx rfl (hb hby at_98) rfl rfl kk) ?_
        show Go _ _ _ _ _ _ _ T84 (mkF m 100 #[.val (.int i0), .val (.int i1), .val (.int i2), .val (.int i3), .val (.int (Int32.ofNat W)), .val (.int (Int32.ofNat H)), .val (.int (Int32.ofNat (W + H))), .val (.int (Int32.ofNat A)), .val (.int (Int32.ofNat B)), .val (.ref b1), .val (.int (Int32.ofNat (min A B))), .unset, .unset, .unset, .unset, .unset, .unset, .unset] [(.ref b1)])
        obtain ⟨v87, T87, L87, X87, q87, st87⟩ := c_virt X84 hx hZ hown (y' := (⟨"com/example/gridwright/gridwright/engine/SmallDraft", "next", "()I"⟩ : MethodName)) (y := (⟨"com/example/gridwright/gridwright/engine/SmallDraft", "next", "()I"⟩ : MethodName)) (C := "com/example/gridwright/gridwright/engine/SmallDraft") (hw _ (List.mem_of_getElem? (i := 101) rfl)) (hw _ (List.mem_of_getElem? (i := 102) rfl)) (notFace_of_selects (args := #[]) (mvT hZ (hw _ (List.mem_of_getElem? (i := 104) rfl)))) (hw _ (List.mem_of_getElem? (i := 104) rfl)) (hw _ (List.mem_of_getElem? (i := 103) rfl)) (hw _ (List.mem_of_getElem? (i := 3) rfl)) (hw _ (List.mem_of_getElem? (i := 105) rfl)) (by decide) (a := b1) (argsL := []) (rest := []) (rmNn l Z a0 hw [] b1 W H ((0 : Int64) ||| (sh (Int32.ofNat (min A B)))) (0 : Int32) (.ref b3) x2_0 x2_1 (0 : Int64) (0 : Int64) false h84 n0 Z84 E84q F84q0 F84q1 f86 F84q3 F84q4 F84q5 F84q6 F84q7 F84q8 F84q9 f85 F84q11 gn_b1 rfl rfl) e84 E84q pd_3 rfl (by rw [hml]; rfl) (W := 0) (by show 2 * 0 + _ ≤ _; exact Nat.le_of_eq rfl) (by decide) (by decide) (by decide) (by decide) (hb hby at_100) (Ls := #[.val (.int i0), .val (.int i1), .val (.int i2), .val (.int i3), .val (.int (Int32.ofNat W)), .val (.int (Int32.ofNat H)), .val (.int (Int32.ofNat (W + H))), .val (.int (Int32.ofNat A)), .val (.int (Int32.ofNat B)), .val (.ref b1), .val (.int (Int32.ofNat (min A B))), .unset, .unset, .unset, .unset, .unset, .unset, .unset])
        generalize e87 : T87.heap = h87 at q87
        obtain ⟨rfl, N87q, K87q, E87q, F87q0, F87q1, F87q2, F87q3, F87q4, F87q5, F87q6, F87q7, F87q8, F87q9, F87q10, F87q11⟩ := q87
        have N87 := Fr.app N84 N87q
        have Z87 : n0 ≤ h87.size := Nat.le_trans Z84 K87q.1
        refine Go.step (st87) ?_
        show Go _ _ _ _ _ _ _ T87 (mkF m 103 #[.val (.int i0), .val (.int i1), .val (.int i2), .val (.int i3), .val (.int (Int32.ofNat W)), .val (.int (Int32.ofNat H)), .val (.int (Int32.ofNat (W + H))), .val (.int (Int32.ofNat A)), .val (.int (Int32.ofNat B)), .val (.ref b1), .val (.int (Int32.ofNat (min A B))), .unset, .unset, .unset, .unset, .unset, .unset, .unset] [(.int (-1 : Int32))])
        refine Go.step (fun tt kk => XS.istore X87.here hx rfl (hb hby at_103) rfl (l' := #[.val (.int i0), .val (.int i1), .val (.int i2), .val (.int i3), .val (.int (Int32.ofNat W)), .val (.int (Int32.ofNat H)), .val (.int (Int32.ofNat (W + H))), .val (.int (Int32.ofNat A)), .val (.int (Int32.ofNat B)), .val (.ref b1), .val (.int (Int32.ofNat (min A B))), .val (.int (-1 : Int32)), .unset, .unset, .unset, .unset, .unset, .unset]) rfl kk) ?_
        show Go _ _ _ _ _ _ _ T87 (mkF m 105 #[.val (.int i0), .val (.int i1), .val (.int i2), .val (.int i3), .val (.int (Int32.ofNat W)), .val (.int (Int32.ofNat H)), .val (.int (Int32.ofNat (W + H))), .val (.int (Int32.ofNat A)), .val (.int (Int32.ofNat B)), .val (.ref b1), .val (.int (Int32.ofNat (min A B))), .val (.int (-1 : Int32)), .unset, .unset, .unset, .unset, .unset, .unset] [])
        refine Go.step (fun tt kk => XS.aload X87.here hx rfl (hb hby at_105) rfl rfl kk) ?_
        show Go _ _ _ _ _ _ _ T87 (mkF m 107 #[.val (.int i0), .val (.int i1), .val (.int i2), .val (.int i3), .val (.int (Int32.ofNat W)), .val (.int (Int32.ofNat H)), .val (.int (Int32.ofNat (W + H))), .val (.int (Int32.ofNat A)), .val (.int (Int32.ofNat B)), .val (.ref b1), .val (.int (Int32.ofNat (min A B))), .val (.int (-1 : Int32)), .unset, .unset, .unset, .unset, .unset, .unset] [(.ref b1)])
        obtain ⟨v88, T88, L88, X88, q88, st88⟩ := c_virt X87 hx hZ hown (y' := (⟨"com/example/gridwright/gridwright/engine/SmallDraft", "next", "()I"⟩ : MethodName)) (y := (⟨"com/example/gridwright/gridwright/engine/SmallDraft", "next", "()I"⟩ : MethodName)) (C := "com/example/gridwright/gridwright/engine/SmallDraft") (hw _ (List.mem_of_getElem? (i := 101) rfl)) (hw _ (List.mem_of_getElem? (i := 102) rfl)) (notFace_of_selects (args := #[]) (mvT hZ (hw _ (List.mem_of_getElem? (i := 104) rfl)))) (hw _ (List.mem_of_getElem? (i := 104) rfl)) (hw _ (List.mem_of_getElem? (i := 103) rfl)) (hw _ (List.mem_of_getElem? (i := 3) rfl)) (hw _ (List.mem_of_getElem? (i := 105) rfl)) (by decide) (a := b1) (argsL := []) (rest := []) (rmNn l Z a0 hw [] b1 W H ((0 : Int64) ||| (sh (Int32.ofNat (min A B)))) (0 : Int32) (.ref b3) x2_0 x2_1 (0 : Int64) (0 : Int64) (!false) h87 n0 Z87 E87q F87q0 F87q1 F87q2 F87q3 F87q4 F87q5 F87q6 F87q7 F87q8 F87q9 F87q10 F87q11 gn_b1 rfl rfl) e87 E87q pd_3 rfl (by rw [hml]; rfl) (W := 0) (by show 2 * 0 + _ ≤ _; exact Nat.le_of_eq rfl) (by decide) (by decide) (by decide) (by decide) (hb hby at_107) (Ls := #[.val (.int i0), .val (.int i1), .val (.int i2), .val (.int i3), .val (.int (Int32.ofNat W)), .val (.int (Int32.ofNat H)), .val (.int (Int32.ofNat (W + H))), .val (.int (Int32.ofNat A)), .val (.int (Int32.ofNat B)), .val (.ref b1), .val (.int (Int32.ofNat (min A B))), .val (.int (-1 : Int32)), .unset, .unset, .unset, .unset, .unset, .unset])
        generalize e88 : T88.heap = h88 at q88
        obtain ⟨rfl, N88q, K88q, E88q, F88q0, F88q1, F88q2, F88q3, F88q4, F88q5, F88q6, F88q7, F88q8, F88q9, F88q10, F88q11⟩ := q88
        have N88 := Fr.app N87 N88q
        have Z88 : n0 ≤ h88.size := Nat.le_trans Z87 K88q.1
        refine Go.step (st88) ?_
        show Go _ _ _ _ _ _ _ T88 (mkF m 110 #[.val (.int i0), .val (.int i1), .val (.int i2), .val (.int i3), .val (.int (Int32.ofNat W)), .val (.int (Int32.ofNat H)), .val (.int (Int32.ofNat (W + H))), .val (.int (Int32.ofNat A)), .val (.int (Int32.ofNat B)), .val (.ref b1), .val (.int (Int32.ofNat (min A B))), .val (.int (-1 : Int32)), .unset, .unset, .unset, .unset, .unset, .unset] [(.int (-1 : Int32))])
        refine Go.step (fun tt kk => XS.istore X88.here hx rfl (hb hby at_110) rfl (l' := #[.val (.int i0), .val (.int i1), .val (.int i2), .val (.int i3), .val (.int (Int32.ofNat W)), .val (.int (Int32.ofNat H)), .val (.int (Int32.ofNat (W + H))), .val (.int (Int32.ofNat A)), .val (.int (Int32.ofNat B)), .val (.ref b1), .val (.int (Int32.ofNat (min A B))), .val (.int (-1 : Int32)), .val (.int (-1 : Int32)), .unset, .unset, .unset, .unset, .unset]) rfl kk) ?_
        show Go _ _ _ _ _ _ _ T88 (mkF m 112 #[.val (.int i0), .val (.int i1), .val (.int i2), .val (.int i3), .val (.int (Int32.ofNat W)), .val (.int (Int32.ofNat H)), .val (.int (Int32.ofNat (W + H))), .val (.int (Int32.ofNat A)), .val (.int (Int32.ofNat B)), .val (.ref b1), .val (.int (Int32.ofNat (min A B))), .val (.int (-1 : Int32)), .val (.int (-1 : Int32)), .unset, .unset, .unset, .unset, .unset] [])
        refine Go.step (fun tt kk => XS.iload X88.here hx rfl (hb hby at_112) rfl kk) ?_
        show Go _ _ _ _ _ _ _ T88 (mkF m 114 #[.val (.int i0), .val (.int i1), .val (.int i2), .val (.int i3), .val (.int (Int32.ofNat W)), .val (.int (Int32.ofNat H)), .val (.int (Int32.ofNat (W + H))), .val (.int (Int32.ofNat A)), .val (.int (Int32.ofNat B)), .val (.ref b1), .val (.int (Int32.ofNat (min A B))), .val (.int (-1 : Int32)), .val (.int (-1 : Int32)), .unset, .unset, .unset, .unset, .unset] [(.int (Int32.ofNat A))])
        refine Go.step (fun tt kk => XS.iload X88.here hx rfl (hb hby at_114) rfl kk) ?_
        show Go _ _ _ _ _ _ _ T88 (mkF m 116 #[.val (.int i0), .val (.int i1), .val (.int i2), .val (.int i3), .val (.int (Int32.ofNat W)), .val (.int (Int32.ofNat H)), .val (.int (Int32.ofNat (W + H))), .val (.int (Int32.ofNat A)), .val (.int (Int32.ofNat B)), .val (.ref b1), .val (.int (Int32.ofNat (min A B))), .val (.int (-1 : Int32)), .val (.int (-1 : Int32)), .unset, .unset, .unset, .unset, .unset] [(.int (Int32.ofNat B)), (.int (Int32.ofNat A))])
        obtain ⟨v89, T89, L89, X89, q89, st89⟩ := c_static X88 hx hZ hown (y := (⟨"java/lang/Math", "min", "(II)I"⟩ : MethodName)) (hw _ (List.mem_of_getElem? (i := 117) rfl)) (hw _ (List.mem_of_getElem? (i := 118) rfl)) (hw _ (List.mem_of_getElem? (i := 37) rfl)) (hw _ (List.mem_of_getElem? (i := 119) rfl)) (by decide) (argsL := [(.int (Int32.ofNat A)), (.int (Int32.ofNat B))]) (rest := []) (rmmn l Z a0 hw [] (Int32.ofNat A) (Int32.ofNat B) h88 n0 Z88) e88 pd_0 rfl (by rw [hml]; rfl) (W := 0) (by show 2 * 0 + _ ≤ _; exact Nat.le_of_eq rfl) (by decide) (by decide) (by decide) (by decide) (hb hby at_116) (Ls := #[.val (.int i0), .val (.int i1), .val (.int i2), .val (.int i3), .val (.int (Int32.ofNat W)), .val (.int (Int32.ofNat H)), .val (.int (Int32.ofNat (W + H))), .val (.int (Int32.ofNat A)), .val (.int (Int32.ofNat B)), .val (.ref b1), .val (.int (Int32.ofNat (min A B))), .val (.int (-1 : Int32)), .val (.int (-1 : Int32)), .unset, .unset, .unset, .unset, .unset])
        obtain ⟨rfl, rfl, e89⟩ := q89
        have N89 := Fr.app N88 (Fr.nil n0)
        refine Go.step (st89) ?_
        show Go _ _ _ _ _ _ _ T89 (mkF m 119 #[.val (.int i0), .val (.int i1), .val (.int i2), .val (.int i3), .val (.int (Int32.ofNat W)), .val (.int (Int32.ofNat H)), .val (.int (Int32.ofNat (W + H))), .val (.int (Int32.ofNat A)), .val (.int (Int32.ofNat B)), .val (.ref b1), .val (.int (Int32.ofNat (min A B))), .val (.int (-1 : Int32)), .val (.int (-1 : Int32)), .unset, .unset, .unset, .unset, .unset] [(.int (mn (Int32.ofNat A) (Int32.ofNat B)))])
        rw [own_min _ _ (by omega) (by omega)]
        show Go _ _ _ _ _ _ _ T89 (mkF m 119 #[.val (.int i0), .val (.int i1), .val (.int i2), .val (.int i3), .val (.int (Int32.ofNat W)), .val (.int (Int32.ofNat H)), .val (.int (Int32.ofNat (W + H))), .val (.int (Int32.ofNat A)), .val (.int (Int32.ofNat B)), .val (.ref b1), .val (.int (Int32.ofNat (min A B))), .val (.int (-1 : Int32)), .val (.int (-1 : Int32)), .unset, .unset, .unset, .unset, .unset] [(.int (Int32.ofNat (min A B)))])
        refine Go.step (fun tt kk => XS.istore X89.here hx rfl (hb hby at_119) rfl (l' := #[.val (.int i0), .val (.int i1), .val (.int i2), .val (.int i3), .val (.int (Int32.ofNat W)), .val (.int (Int32.ofNat H)), .val (.int (Int32.ofNat (W + H))), .val (.int (Int32.ofNat A)), .val (.int (Int32.ofNat B)), .val (.ref b1), .val (.int (Int32.ofNat (min A B))), .val (.int (-1 : Int32)), .val (.int (-1 : Int32)), .val (.int (Int32.ofNat (min A B))), .unset, .unset, .unset, .unset]) rfl kk) ?_
        show Go _ _ _ _ _ _ _ T89 (mkF m 121 #[.val (.int i0), .val (.int i1), .val (.int i2), .val (.int i3), .val (.int (Int32.ofNat W)), .val (.int (Int32.ofNat H)), .val (.int (Int32.ofNat (W + H))), .val (.int (Int32.ofNat A)), .val (.int (Int32.ofNat B)), .val (.ref b1), .val (.int (Int32.ofNat (min A B))), .val (.int (-1 : Int32)), .val (.int (-1 : Int32)), .val (.int (Int32.ofNat (min A B))), .unset, .unset, .unset, .unset] [])
        refine Go.step (fun tt kk => XS.iload X89.here hx rfl (hb hby at_121) rfl kk) ?_
        show Go _ _ _ _ _ _ _ T89 (mkF m 123 #[.val (.int i0), .val (.int i1), .val (.int i2), .val (.int i3), .val (.int (Int32.ofNat W)), .val (.int (Int32.ofNat H)), .val (.int (Int32.ofNat (W + H))), .val (.int (Int32.ofNat A)), .val (.int (Int32.ofNat B)), .val (.ref b1), .val (.int (Int32.ofNat (min A B))), .val (.int (-1 : Int32)), .val (.int (-1 : Int32)), .val (.int (Int32.ofNat (min A B))), .unset, .unset, .unset, .unset] [(.int (Int32.ofNat A))])
        refine Go.step (fun tt kk => XS.iload X89.here hx rfl (hb hby at_123) rfl kk) ?_
        show Go _ _ _ _ _ _ _ T89 (mkF m 125 #[.val (.int i0), .val (.int i1), .val (.int i2), .val (.int i3), .val (.int (Int32.ofNat W)), .val (.int (Int32.ofNat H)), .val (.int (Int32.ofNat (W + H))), .val (.int (Int32.ofNat A)), .val (.int (Int32.ofNat B)), .val (.ref b1), .val (.int (Int32.ofNat (min A B))), .val (.int (-1 : Int32)), .val (.int (-1 : Int32)), .val (.int (Int32.ofNat (min A B))), .unset, .unset, .unset, .unset] [(.int (Int32.ofNat B)), (.int (Int32.ofNat A))])
        obtain ⟨v90, T90, L90, X90, q90, st90⟩ := c_static X89 hx hZ hown (y := (⟨"java/lang/Math", "max", "(II)I"⟩ : MethodName)) (hw _ (List.mem_of_getElem? (i := 120) rfl)) (hw _ (List.mem_of_getElem? (i := 46) rfl)) (hw _ (List.mem_of_getElem? (i := 37) rfl)) (hw _ (List.mem_of_getElem? (i := 47) rfl)) (by decide) (argsL := [(.int (Int32.ofNat A)), (.int (Int32.ofNat B))]) (rest := []) (rmmx l Z a0 hw [] (Int32.ofNat A) (Int32.ofNat B) h88 n0 Z88) e89 pd_0 rfl (by rw [hml]; rfl) (W := 0) (by show 2 * 0 + _ ≤ _; exact Nat.le_of_eq rfl) (by decide) (by decide) (by decide) (by decide) (hb hby at_125) (Ls := #[.val (.int i0), .val (.int i1), .val (.int i2), .val (.int i3), .val (.int (Int32.ofNat W)), .val (.int (Int32.ofNat H)), .val (.int (Int32.ofNat (W + H))), .val (.int (Int32.ofNat A)), .val (.int (Int32.ofNat B)), .val (.ref b1), .val (.int (Int32.ofNat (min A B))), .val (.int (-1 : Int32)), .val (.int (-1 : Int32)), .val (.int (Int32.ofNat (min A B))), .unset, .unset, .unset, .unset])
        obtain ⟨rfl, rfl, e90⟩ := q90
        have N90 := Fr.app N89 (Fr.nil n0)
        refine Go.step (st90) ?_
        show Go _ _ _ _ _ _ _ T90 (mkF m 128 #[.val (.int i0), .val (.int i1), .val (.int i2), .val (.int i3), .val (.int (Int32.ofNat W)), .val (.int (Int32.ofNat H)), .val (.int (Int32.ofNat (W + H))), .val (.int (Int32.ofNat A)), .val (.int (Int32.ofNat B)), .val (.ref b1), .val (.int (Int32.ofNat (min A B))), .val (.int (-1 : Int32)), .val (.int (-1 : Int32)), .val (.int (Int32.ofNat (min A B))), .unset, .unset, .unset, .unset] [(.int (mx (Int32.ofNat A) (Int32.ofNat B)))])
        rw [own_max _ _ (by omega) (by omega)]
        show Go _ _ _ _ _ _ _ T90 (mkF m 128 #[.val (.int i0), .val (.int i1), .val (.int i2), .val (.int i3), .val (.int (Int32.ofNat W)), .val (.int (Int32.ofNat H)), .val (.int (Int32.ofNat (W + H))), .val (.int (Int32.ofNat A)), .val (.int (Int32.ofNat B)), .val (.ref b1), .val (.int (Int32.ofNat (min A B))), .val (.int (-1 : Int32)), .val (.int (-1 : Int32)), .val (.int (Int32.ofNat (min A B))), .unset, .unset, .unset, .unset] [(.int (Int32.ofNat (max A B)))])
        refine Go.step (fun tt kk => XS.istore X90.here hx rfl (hb hby at_128) rfl (l' := #[.val (.int i0), .val (.int i1), .val (.int i2), .val (.int i3), .val (.int (Int32.ofNat W)), .val (.int (Int32.ofNat H)), .val (.int (Int32.ofNat (W + H))), .val (.int (Int32.ofNat A)), .val (.int (Int32.ofNat B)), .val (.ref b1), .val (.int (Int32.ofNat (min A B))), .val (.int (-1 : Int32)), .val (.int (-1 : Int32)), .val (.int (Int32.ofNat (min A B))), .val (.int (Int32.ofNat (max A B))), .unset, .unset, .unset]) rfl kk) ?_
        show Go _ _ _ _ _ _ _ T90 (mkF m 130 #[.val (.int i0), .val (.int i1), .val (.int i2), .val (.int i3), .val (.int (Int32.ofNat W)), .val (.int (Int32.ofNat H)), .val (.int (Int32.ofNat (W + H))), .val (.int (Int32.ofNat A)), .val (.int (Int32.ofNat B)), .val (.ref b1), .val (.int (Int32.ofNat (min A B))), .val (.int (-1 : Int32)), .val (.int (-1 : Int32)), .val (.int (Int32.ofNat (min A B))), .val (.int (Int32.ofNat (max A B))), .unset, .unset, .unset] [])
        refine Go.step (fun tt kk => XS.iload X90.here hx rfl (hb hby at_130) rfl kk) ?_
        show Go _ _ _ _ _ _ _ T90 (mkF m 132 #[.val (.int i0), .val (.int i1), .val (.int i2), .val (.int i3), .val (.int (Int32.ofNat W)), .val (.int (Int32.ofNat H)), .val (.int (Int32.ofNat (W + H))), .val (.int (Int32.ofNat A)), .val (.int (Int32.ofNat B)), .val (.ref b1), .val (.int (Int32.ofNat (min A B))), .val (.int (-1 : Int32)), .val (.int (-1 : Int32)), .val (.int (Int32.ofNat (min A B))), .val (.int (Int32.ofNat (max A B))), .unset, .unset, .unset] [(.int (Int32.ofNat (max A B)))])
        refine Go.step (fun tt kk => XS.iload X90.here hx rfl (hb hby at_132) rfl kk) ?_
        show Go _ _ _ _ _ _ _ T90 (mkF m 134 #[.val (.int i0), .val (.int i1), .val (.int i2), .val (.int i3), .val (.int (Int32.ofNat W)), .val (.int (Int32.ofNat H)), .val (.int (Int32.ofNat (W + H))), .val (.int (Int32.ofNat A)), .val (.int (Int32.ofNat B)), .val (.ref b1), .val (.int (Int32.ofNat (min A B))), .val (.int (-1 : Int32)), .val (.int (-1 : Int32)), .val (.int (Int32.ofNat (min A B))), .val (.int (Int32.ofNat (max A B))), .unset, .unset, .unset] [(.int (Int32.ofNat (min A B))), (.int (Int32.ofNat (max A B)))])
        refine Go.step (fun tt kk => XS.icmpYes X90.here hx rfl (pc0 := 134) (pc' := 142) rfl (hb hby at_134) rfl (teq ((own_eq _ _ (by omega) (by omega)).mpr (by omega))).1 (by decide) (by decide) kk) ?_
        show Go _ _ _ _ _ _ _ T90 (mkF m 142 #[.val (.int i0), .val (.int i1), .val (.int i2), .val (.int i3), .val (.int (Int32.ofNat W)), .val (.int (Int32.ofNat H)), .val (.int (Int32.ofNat (W + H))), .val (.int (Int32.ofNat A)), .val (.int (Int32.ofNat B)), .val (.ref b1), .val (.int (Int32.ofNat (min A B))), .val (.int (-1 : Int32)), .val (.int (-1 : Int32)), .val (.int (Int32.ofNat (min A B))), .val (.int (Int32.ofNat (max A B))), .unset, .unset, .unset] [])
        refine Go.step (fun tt kk => XS.iconst X90.here hx rfl (hb hby at_142) kk) ?_
        show Go _ _ _ _ _ _ _ T90 (mkF m 143 #[.val (.int i0), .val (.int i1), .val (.int i2), .val (.int i3), .val (.int (Int32.ofNat W)), .val (.int (Int32.ofNat H)), .val (.int (Int32.ofNat (W + H))), .val (.int (Int32.ofNat A)), .val (.int (Int32.ofNat B)), .val (.ref b1), .val (.int (Int32.ofNat (min A B))), .val (.int (-1 : Int32)), .val (.int (-1 : Int32)), .val (.int (Int32.ofNat (min A B))), .val (.int (Int32.ofNat (max A B))), .unset, .unset, .unset] [(.int (-1 : Int32))])
        refine Go.step (fun tt kk => XS.istore X90.here hx rfl (hb hby at_143) rfl (l' := #[.val (.int i0), .val (.int i1), .val (.int i2), .val (.int i3), .val (.int (Int32.ofNat W)), .val (.int (Int32.ofNat H)), .val (.int (Int32.ofNat (W + H))), .val (.int (Int32.ofNat A)), .val (.int (Int32.ofNat B)), .val (.ref b1), .val (.int (Int32.ofNat (min A B))), .val (.int (-1 : Int32)), .val (.int (-1 : Int32)), .val (.int (Int32.ofNat (min A B))), .val (.int (Int32.ofNat (max A B))), .val (.int (-1 : Int32)), .unset, .unset]) rfl kk) ?_
        show Go _ _ _ _ _ _ _ T90 (mkF m 145 #[.val (.int i0), .val (.int i1), .val (.int i2), .val (.int i3), .val (.int (Int32.ofNat W)), .val (.int (Int32.ofNat H)), .val (.int (Int32.ofNat (W + H))), .val (.int (Int32.ofNat A)), .val (.int (Int32.ofNat B)), .val (.ref b1), .val (.int (Int32.ofNat (min A B))), .val (.int (-1 : Int32)), .val (.int (-1 : Int32)), .val (.int (Int32.ofNat (min A B))), .val (.int (Int32.ofNat (max A B))), .val (.int (-1 : Int32)), .unset, .unset] [])
        refine Go.step (fun tt kk => XS.lconst X90.here hx rfl (hb hby at_145) kk) ?_
        show Go _ _ _ _ _ _ _ T90 (mkF m 146 #[.val (.int i0), .val (.int i1), .val (.int i2), .val (.int i3), .val (.int (Int32.ofNat W)), .val (.int (Int32.ofNat H)), .val (.int (Int32.ofNat (W + H))), .val (.int (Int32.ofNat A)), .val (.int (Int32.ofNat B)), .val (.ref b1), .val (.int (Int32.ofNat (min A B))), .val (.int (-1 : Int32)), .val (.int (-1 : Int32)), .val (.int (Int32.ofNat (min A B))), .val (.int (Int32.ofNat (max A B))), .val (.int (-1 : Int32)), .unset, .unset] [(.long (1 : Int64))])
        refine Go.step (fun tt kk => XS.iload X90.here hx rfl (hb hby at_146) rfl kk) ?_
        show Go _ _ _ _ _ _ _ T90 (mkF m 148 #[.val (.int i0), .val (.int i1), .val (.int i2), .val (.int i3), .val (.int (Int32.ofNat W)), .val (.int (Int32.ofNat H)), .val (.int (Int32.ofNat (W + H))), .val (.int (Int32.ofNat A)), .val (.int (Int32.ofNat B)), .val (.ref b1), .val (.int (Int32.ofNat (min A B))), .val (.int (-1 : Int32)), .val (.int (-1 : Int32)), .val (.int (Int32.ofNat (min A B))), .val (.int (Int32.ofNat (max A B))), .val (.int (-1 : Int32)), .unset, .unset] [(.int (Int32.ofNat A)), (.long (1 : Int64))])
        refine Go.step (fun tt kk => XS.lshl X90.here hx rfl (hb hby at_148) rfl kk) ?_
        show Go _ _ _ _ _ _ _ T90 (mkF m 149 #[.val (.int i0), .val (.int i1), .val (.int i2), .val (.int i3), .val (.int (Int32.ofNat W)), .val (.int (Int32.ofNat H)), .val (.int (Int32.ofNat (W + H))), .val (.int (Int32.ofNat A)), .val (.int (Int32.ofNat B)), .val (.ref b1), .val (.int (Int32.ofNat (min A B))), .val (.int (-1 : Int32)), .val (.int (-1 : Int32)), .val (.int (Int32.ofNat (min A B))), .val (.int (Int32.ofNat (max A B))), .val (.int (-1 : Int32)), .unset, .unset] [(.long ((1 : Int64) <<< ((Int32.ofNat A) &&& 0x3f).toInt64))])
        refine Go.step (fun tt kk => XS.lconst X90.here hx rfl (hb hby at_149) kk) ?_
        show Go _ _ _ _ _ _ _ T90 (mkF m 150 #[.val (.int i0), .val (.int i1), .val (.int i2), .val (.int i3), .val (.int (Int32.ofNat W)), .val (.int (Int32.ofNat H)), .val (.int (Int32.ofNat (W + H))), .val (.int (Int32.ofNat A)), .val (.int (Int32.ofNat B)), .val (.ref b1), .val (.int (Int32.ofNat (min A B))), .val (.int (-1 : Int32)), .val (.int (-1 : Int32)), .val (.int (Int32.ofNat (min A B))), .val (.int (Int32.ofNat (max A B))), .val (.int (-1 : Int32)), .unset, .unset] [(.long (1 : Int64)), (.long ((1 : Int64) <<< ((Int32.ofNat A) &&& 0x3f).toInt64))])
        refine Go.step (fun tt kk => XS.iload X90.here hx rfl (hb hby at_150) rfl kk) ?_
        show Go _ _ _ _ _ _ _ T90 (mkF m 152 #[.val (.int i0), .val (.int i1), .val (.int i2), .val (.int i3), .val (.int (Int32.ofNat W)), .val (.int (Int32.ofNat H)), .val (.int (Int32.ofNat (W + H))), .val (.int (Int32.ofNat A)), .val (.int (Int32.ofNat B)), .val (.ref b1), .val (.int (Int32.ofNat (min A B))), .val (.int (-1 : Int32)), .val (.int (-1 : Int32)), .val (.int (Int32.ofNat (min A B))), .val (.int (Int32.ofNat (max A B))), .val (.int (-1 : Int32)), .unset, .unset] [(.int (Int32.ofNat B)), (.long (1 : Int64)), (.long ((1 : Int64) <<< ((Int32.ofNat A) &&& 0x3f).toInt64))])
        refine Go.step (fun tt kk => XS.lshl X90.here hx rfl (hb hby at_152) rfl kk) ?_
        show Go _ _ _ _ _ _ _ T90 (mkF m 153 #[.val (.int i0), .val (.int i1), .val (.int i2), .val (.int i3), .val (.int (Int32.ofNat W)), .val (.int (Int32.ofNat H)), .val (.int (Int32.ofNat (W + H))), .val (.int (Int32.ofNat A)), .val (.int (Int32.ofNat B)), .val (.ref b1), .val (.int (Int32.ofNat (min A B))), .val (.int (-1 : Int32)), .val (.int (-1 : Int32)), .val (.int (Int32.ofNat (min A B))), .val (.int (Int32.ofNat (max A B))), .val (.int (-1 : Int32)), .unset, .unset] [(.long ((1 : Int64) <<< ((Int32.ofNat B) &&& 0x3f).toInt64)), (.long ((1 : Int64) <<< ((Int32.ofNat A) &&& 0x3f).toInt64))])
        refine Go.step (fun tt kk => XS.lor X90.here hx rfl (hb hby at_153) rfl kk) ?_
        show Go _ _ _ _ _ _ _ T90 (mkF m 154 #[.val (.int i0), .val (.int i1), .val (.int i2), .val (.int i3), .val (.int (Int32.ofNat W)), .val (.int (Int32.ofNat H)), .val (.int (Int32.ofNat (W + H))), .val (.int (Int32.ofNat A)), .val (.int (Int32.ofNat B)), .val (.ref b1), .val (.int (Int32.ofNat (min A B))), .val (.int (-1 : Int32)), .val (.int (-1 : Int32)), .val (.int (Int32.ofNat (min A B))), .val (.int (Int32.ofNat (max A B))), .val (.int (-1 : Int32)), .unset, .unset] [(.long (((1 : Int64) <<< ((Int32.ofNat A) &&& 0x3f).toInt64) ||| ((1 : Int64) <<< ((Int32.ofNat B) &&& 0x3f).toInt64)))])
        refine Go.step (fun tt kk => XS.lstore X90.here hx rfl (hb hby at_154) rfl (l' := #[.val (.int i0), .val (.int i1), .val (.int i2), .val (.int i3), .val (.int (Int32.ofNat W)), .val (.int (Int32.ofNat H)), .val (.int (Int32.ofNat (W + H))), .val (.int (Int32.ofNat A)), .val (.int (Int32.ofNat B)), .val (.ref b1), .val (.int (Int32.ofNat (min A B))), .val (.int (-1 : Int32)), .val (.int (-1 : Int32)), .val (.int (Int32.ofNat (min A B))), .val (.int (Int32.ofNat (max A B))), .val (.int (-1 : Int32)), .val (.long (((1 : Int64) <<< ((Int32.ofNat A) &&& 0x3f).toInt64) ||| ((1 : Int64) <<< ((Int32.ofNat B) &&& 0x3f).toInt64))), .second]) rfl kk) ?_
        show Go _ _ _ _ _ _ _ T90 (mkF m 156 #[.val (.int i0), .val (.int i1), .val (.int i2), .val (.int i3), .val (.int (Int32.ofNat W)), .val (.int (Int32.ofNat H)), .val (.int (Int32.ofNat (W + H))), .val (.int (Int32.ofNat A)), .val (.int (Int32.ofNat B)), .val (.ref b1), .val (.int (Int32.ofNat (min A B))), .val (.int (-1 : Int32)), .val (.int (-1 : Int32)), .val (.int (Int32.ofNat (min A B))), .val (.int (Int32.ofNat (max A B))), .val (.int (-1 : Int32)), .val (.long (((1 : Int64) <<< ((Int32.ofNat A) &&& 0x3f).toInt64) ||| ((1 : Int64) <<< ((Int32.ofNat B) &&& 0x3f).toInt64))), .second] [])
        refine Go.step (fun tt kk => XS.iload X90.here hx rfl (hb hby at_156) rfl kk) ?_
        show Go _ _ _ _ _ _ _ T90 (mkF m 158 #[.val (.int i0), .val (.int i1), .val (.int i2), .val (.int i3), .val (.int (Int32.ofNat W)), .val (.int (Int32.ofNat H)), .val (.int (Int32.ofNat (W + H))), .val (.int (Int32.ofNat A)), .val (.int (Int32.ofNat B)), .val (.ref b1), .val (.int (Int32.ofNat (min A B))), .val (.int (-1 : Int32)), .val (.int (-1 : Int32)), .val (.int (Int32.ofNat (min A B))), .val (.int (Int32.ofNat (max A B))), .val (.int (-1 : Int32)), .val (.long (((1 : Int64) <<< ((Int32.ofNat A) &&& 0x3f).toInt64) ||| ((1 : Int64) <<< ((Int32.ofNat B) &&& 0x3f).toInt64))), .second] [(.int (Int32.ofNat (min A B)))])
        refine Go.step (fun tt kk => XS.iload X90.here hx rfl (hb hby at_158) rfl kk) ?_
        show Go _ _ _ _ _ _ _ T90 (mkF m 160 #[.val (.int i0), .val (.int i1), .val (.int i2), .val (.int i3), .val (.int (Int32.ofNat W)), .val (.int (Int32.ofNat H)), .val (.int (Int32.ofNat (W + H))), .val (.int (Int32.ofNat A)), .val (.int (Int32.ofNat B)), .val (.ref b1), .val (.int (Int32.ofNat (min A B))), .val (.int (-1 : Int32)), .val (.int (-1 : Int32)), .val (.int (Int32.ofNat (min A B))), .val (.int (Int32.ofNat (max A B))), .val (.int (-1 : Int32)), .val (.long (((1 : Int64) <<< ((Int32.ofNat A) &&& 0x3f).toInt64) ||| ((1 : Int64) <<< ((Int32.ofNat B) &&& 0x3f).toInt64))), .second] [(.int (Int32.ofNat (min A B))), (.int (Int32.ofNat (min A B)))])
        refine Go.step (fun tt kk => XS.icmpNo X90.here hx rfl (hb hby at_160) rfl (teq ((own_eq _ _ (by omega) (by omega)).mpr (by omega))).2 kk) ?_
        show Go _ _ _ _ _ _ _ T90 (mkF m 163 #[.val (.int i0), .val (.int i1), .val (.int i2), .val (.int i3), .val (.int (Int32.ofNat W)), .val (.int (Int32.ofNat H)), .val (.int (Int32.ofNat (W + H))), .val (.int (Int32.ofNat A)), .val (.int (Int32.ofNat B)), .val (.ref b1), .val (.int (Int32.ofNat (min A B))), .val (.int (-1 : Int32)), .val (.int (-1 : Int32)), .val (.int (Int32.ofNat (min A B))), .val (.int (Int32.ofNat (max A B))), .val (.int (-1 : Int32)), .val (.long (((1 : Int64) <<< ((Int32.ofNat A) &&& 0x3f).toInt64) ||| ((1 : Int64) <<< ((Int32.ofNat B) &&& 0x3f).toInt64))), .second] [])
        refine Go.step (fun tt kk => XS.iload X90.here hx rfl (hb hby at_163) rfl kk) ?_
        show Go _ _ _ _ _ _ _ T90 (mkF m 165 #[.val (.int i0), .val (.int i1), .val (.int i2), .val (.int i3), .val (.int (Int32.ofNat W)), .val (.int (Int32.ofNat H)), .val (.int (Int32.ofNat (W + H))), .val (.int (Int32.ofNat A)), .val (.int (Int32.ofNat B)), .val (.ref b1), .val (.int (Int32.ofNat (min A B))), .val (.int (-1 : Int32)), .val (.int (-1 : Int32)), .val (.int (Int32.ofNat (min A B))), .val (.int (Int32.ofNat (max A B))), .val (.int (-1 : Int32)), .val (.long (((1 : Int64) <<< ((Int32.ofNat A) &&& 0x3f).toInt64) ||| ((1 : Int64) <<< ((Int32.ofNat B) &&& 0x3f).toInt64))), .second] [(.int (-1 : Int32))])
        refine Go.step (fun tt kk => XS.iload X90.here hx rfl (hb hby at_165) rfl kk) ?_
        show Go _ _ _ _ _ _ _ T90 (mkF m 167 #[.val (.int i0), .val (.int i1), .val (.int i2), .val (.int i3), .val (.int (Int32.ofNat W)), .val (.int (Int32.ofNat H)), .val (.int (Int32.ofNat (W + H))), .val (.int (Int32.ofNat A)), .val (.int (Int32.ofNat B)), .val (.ref b1), .val (.int (Int32.ofNat (min A B))), .val (.int (-1 : Int32)), .val (.int (-1 : Int32)), .val (.int (Int32.ofNat (min A B))), .val (.int (Int32.ofNat (max A B))), .val (.int (-1 : Int32)), .val (.long (((1 : Int64) <<< ((Int32.ofNat A) &&& 0x3f).toInt64) ||| ((1 : Int64) <<< ((Int32.ofNat B) &&& 0x3f).toInt64))), .second] [(.int (-1 : Int32)), (.int (-1 : Int32))])
        refine Go.step (fun tt kk => XS.icmpNo X90.here hx rfl (hb hby at_167) rfl (teq rfl).2 kk) ?_
        show Go _ _ _ _ _ _ _ T90 (mkF m 170 #[.val (.int i0), .val (.int i1), .val (.int i2), .val (.int i3), .val (.int (Int32.ofNat W)), .val (.int (Int32.ofNat H)), .val (.int (Int32.ofNat (W + H))), .val (.int (Int32.ofNat A)), .val (.int (Int32.ofNat B)), .val (.ref b1), .val (.int (Int32.ofNat (min A B))), .val (.int (-1 : Int32)), .val (.int (-1 : Int32)), .val (.int (Int32.ofNat (min A B))), .val (.int (Int32.ofNat (max A B))), .val (.int (-1 : Int32)), .val (.long (((1 : Int64) <<< ((Int32.ofNat A) &&& 0x3f).toInt64) ||| ((1 : Int64) <<< ((Int32.ofNat B) &&& 0x3f).toInt64))), .second] [])
        refine Go.step (fun tt kk => XS.iload X90.here hx rfl (hb hby at_170) rfl kk) ?_
        show Go _ _ _ _ _ _ _ T90 (mkF m 172 #[.val (.int i0), .val (.int i1), .val (.int i2), .val (.int i3), .val (.int (Int32.ofNat W)), .val (.int (Int32.ofNat H)), .val (.int (Int32.ofNat (W + H))), .val (.int (Int32.ofNat A)), .val (.int (Int32.ofNat B)), .val (.ref b1), .val (.int (Int32.ofNat (min A B))), .val (.int (-1 : Int32)), .val (.int (-1 : Int32)), .val (.int (Int32.ofNat (min A B))), .val (.int (Int32.ofNat (max A B))), .val (.int (-1 : Int32)), .val (.long (((1 : Int64) <<< ((Int32.ofNat A) &&& 0x3f).toInt64) ||| ((1 : Int64) <<< ((Int32.ofNat B) &&& 0x3f).toInt64))), .second] [(.int (-1 : Int32))])
        refine Go.step (fun tt kk => XS.iconst X90.here hx rfl (hb hby at_172) kk) ?_
        show Go _ _ _ _ _ _ _ T90 (mkF m 173 #[.val (.int i0), .val (.int i1), .val (.int i2), .val (.int i3), .val (.int (Int32.ofNat W)), .val (.int (Int32.ofNat H)), .val (.int (Int32.ofNat (W + H))), .val (.int (Int32.ofNat A)), .val (.int (Int32.ofNat B)), .val (.ref b1), .val (.int (Int32.ofNat (min A B))), .val (.int (-1 : Int32)), .val (.int (-1 : Int32)), .val (.int (Int32.ofNat (min A B))), .val (.int (Int32.ofNat (max A B))), .val (.int (-1 : Int32)), .val (.long (((1 : Int64) <<< ((Int32.ofNat A) &&& 0x3f).toInt64) ||| ((1 : Int64) <<< ((Int32.ofNat B) &&& 0x3f).toInt64))), .second] [(.int (-1 : Int32)), (.int (-1 : Int32))])
        refine Go.step (fun tt kk => XS.icmpNo X90.here hx rfl (hb hby at_173) rfl (teq rfl).2 kk) ?_
        show Go _ _ _ _ _ _ _ T90 (mkF m 176 #[.val (.int i0), .val (.int i1), .val (.int i2), .val (.int i3), .val (.int (Int32.ofNat W)), .val (.int (Int32.ofNat H)), .val (.int (Int32.ofNat (W + H))), .val (.int (Int32.ofNat A)), .val (.int (Int32.ofNat B)), .val (.ref b1), .val (.int (Int32.ofNat (min A B))), .val (.int (-1 : Int32)), .val (.int (-1 : Int32)), .val (.int (Int32.ofNat (min A B))), .val (.int (Int32.ofNat (max A B))), .val (.int (-1 : Int32)), .val (.long (((1 : Int64) <<< ((Int32.ofNat A) &&& 0x3f).toInt64) ||| ((1 : Int64) <<< ((Int32.ofNat B) &&& 0x3f).toInt64))), .second] [])
        refine Go.step (fun tt kk => XS.aload X90.here hx rfl (hb hby at_176) rfl rfl kk) ?_
        show Go _ _ _ _ _ _ _ T90 (mkF m 178 #[.val (.int i0), .val (.int i1), .val (.int i2), .val (.int i3), .val (.int (Int32.ofNat W)), .val (.int (Int32.ofNat H)), .val (.int (Int32.ofNat (W + H))), .val (.int (Int32.ofNat A)), .val (.int (Int32.ofNat B)), .val (.ref b1), .val (.int (Int32.ofNat (min A B))), .val (.int (-1 : Int32)), .val (.int (-1 : Int32)), .val (.int (Int32.ofNat (min A B))), .val (.int (Int32.ofNat (max A B))), .val (.int (-1 : Int32)), .val (.long (((1 : Int64) <<< ((Int32.ofNat A) &&& 0x3f).toInt64) ||| ((1 : Int64) <<< ((Int32.ofNat B) &&& 0x3f).toInt64))), .second] [(.ref b1)])
        obtain ⟨v91, T91, L91, X91, q91, st91⟩ := c_virtUp X90 hx hZ hown (y' := (⟨"com/example/gridwright/gridwright/engine/SmallDraft", "taken", "()J"⟩ : MethodName)) (y := (⟨"com/example/gridwright/gridwright/engine/Draft", "taken", "()J"⟩ : MethodName)) (C := "com/example/gridwright/gridwright/engine/SmallDraft") (owner := "com/example/gridwright/gridwright/engine/Draft") (hw _ (List.mem_of_getElem? (i := 121) rfl)) (hw _ (List.mem_of_getElem? (i := 122) rfl)) (hw _ (List.mem_of_getElem? (i := 123) rfl)) (hw _ (List.mem_of_getElem? (i := 125) rfl)) (hw _ (List.mem_of_getElem? (i := 124) rfl)) (hw _ (List.mem_of_getElem? (i := 10) rfl)) (hw _ (List.mem_of_getElem? (i := 126) rfl)) (by decide) (a := b1) (argsL := []) (rest := []) (rmTk l Z a0 hw [] b1 ((0 : Int64) ||| (sh (Int32.ofNat (min A B)))) h88 n0 Z88 F88q2) e90 E88q pd_7 rfl (by rw [hml]; rfl) (W := 0) (by show 2 * 0 + _ ≤ _; exact Nat.le_of_eq rfl) (by decide) (by decide) (by decide) (by decide) (hb hby at_178) (Ls := #[.val (.int i0), .val (.int i1), .val (.int i2), .val (.int i3), .val (.int (Int32.ofNat W)), .val (.int (Int32.ofNat H)), .val (.int (Int32.ofNat (W + H))), .val (.int (Int32.ofNat A)), .val (.int (Int32.ofNat B)), .val (.ref b1), .val (.int (Int32.ofNat (min A B))), .val (.int (-1 : Int32)), .val (.int (-1 : Int32)), .val (.int (Int32.ofNat (min A B))), .val (.int (Int32.ofNat (max A B))), .val (.int (-1 : Int32)), .val (.long (((1 : Int64) <<< ((Int32.ofNat A) &&& 0x3f).toInt64) ||| ((1 : Int64) <<< ((Int32.ofNat B) &&& 0x3f).toInt64))), .second])
        obtain ⟨rfl, rfl, e91⟩ := q91
        have N91 := Fr.app N90 (Fr.nil n0)
        refine Go.step (st91) ?_
        show Go _ _ _ _ _ _ _ T91 (mkF m 181 #[.val (.int i0), .val (.int i1), .val (.int i2), .val (.int i3), .val (.int (Int32.ofNat W)), .val (.int (Int32.ofNat H)), .val (.int (Int32.ofNat (W + H))), .val (.int (Int32.ofNat A)), .val (.int (Int32.ofNat B)), .val (.ref b1), .val (.int (Int32.ofNat (min A B))), .val (.int (-1 : Int32)), .val (.int (-1 : Int32)), .val (.int (Int32.ofNat (min A B))), .val (.int (Int32.ofNat (max A B))), .val (.int (-1 : Int32)), .val (.long (((1 : Int64) <<< ((Int32.ofNat A) &&& 0x3f).toInt64) ||| ((1 : Int64) <<< ((Int32.ofNat B) &&& 0x3f).toInt64))), .second] [(.long ((0 : Int64) ||| (sh (Int32.ofNat (min A B)))))])
        refine Go.step (fun tt kk => XS.lload X91.here hx rfl (hb hby at_181) rfl kk) ?_
        show Go _ _ _ _ _ _ _ T91 (mkF m 183 #[.val (.int i0), .val (.int i1), .val (.int i2), .val (.int i3), .val (.int (Int32.ofNat W)), .val (.int (Int32.ofNat H)), .val (.int (Int32.ofNat (W + H))), .val (.int (Int32.ofNat A)), .val (.int (Int32.ofNat B)), .val (.ref b1), .val (.int (Int32.ofNat (min A B))), .val (.int (-1 : Int32)), .val (.int (-1 : Int32)), .val (.int (Int32.ofNat (min A B))), .val (.int (Int32.ofNat (max A B))), .val (.int (-1 : Int32)), .val (.long (((1 : Int64) <<< ((Int32.ofNat A) &&& 0x3f).toInt64) ||| ((1 : Int64) <<< ((Int32.ofNat B) &&& 0x3f).toInt64))), .second] [(.long (((1 : Int64) <<< ((Int32.ofNat A) &&& 0x3f).toInt64) ||| ((1 : Int64) <<< ((Int32.ofNat B) &&& 0x3f).toInt64))), (.long ((0 : Int64) ||| (sh (Int32.ofNat (min A B)))))])
        refine Go.step (fun tt kk => XS.lcmp X91.here hx rfl (hb hby at_183) rfl kk) ?_
        show Go _ _ _ _ _ _ _ T91 (mkF m 184 #[.val (.int i0), .val (.int i1), .val (.int i2), .val (.int i3), .val (.int (Int32.ofNat W)), .val (.int (Int32.ofNat H)), .val (.int (Int32.ofNat (W + H))), .val (.int (Int32.ofNat A)), .val (.int (Int32.ofNat B)), .val (.ref b1), .val (.int (Int32.ofNat (min A B))), .val (.int (-1 : Int32)), .val (.int (-1 : Int32)), .val (.int (Int32.ofNat (min A B))), .val (.int (Int32.ofNat (max A B))), .val (.int (-1 : Int32)), .val (.long (((1 : Int64) <<< ((Int32.ofNat A) &&& 0x3f).toInt64) ||| ((1 : Int64) <<< ((Int32.ofNat B) &&& 0x3f).toInt64))), .second] [(.int (lcmpW ((0 : Int64) ||| (sh (Int32.ofNat (min A B)))) (((1 : Int64) <<< ((Int32.ofNat A) &&& 0x3f).toInt64) ||| ((1 : Int64) <<< ((Int32.ofNat B) &&& 0x3f).toInt64))))])
        refine Go.step (fun tt kk => XS.ifNo X91.here hx rfl (hb hby at_184) rfl ((if0 _ _).trans (teq ((lw_eq _ _).mpr (by subst hAB; rw [own_or0, Nat.min_self, Int64.or_self]))).2) kk) ?_
        show Go _ _ _ _ _ _ _ T91 (mkF m 187 #[.val (.int i0), .val (.int i1), .val (.int i2), .val (.int i3), .val (.int (Int32.ofNat W)), .val (.int (Int32.ofNat H)), .val (.int (Int32.ofNat (W + H))), .val (.int (Int32.ofNat A)), .val (.int (Int32.ofNat B)), .val (.ref b1), .val (.int (Int32.ofNat (min A B))), .val (.int (-1 : Int32)), .val (.int (-1 : Int32)), .val (.int (Int32.ofNat (min A B))), .val (.int (Int32.ofNat (max A B))), .val (.int (-1 : Int32)), .val (.long (((1 : Int64) <<< ((Int32.ofNat A) &&& 0x3f).toInt64) ||| ((1 : Int64) <<< ((Int32.ofNat B) &&& 0x3f).toInt64))), .second] [])
        refine Go.step (fun tt kk => XS.iconst X91.here hx rfl (hb hby at_187) kk) ?_
        show Go _ _ _ _ _ _ _ T91 (mkF m 188 #[.val (.int i0), .val (.int i1), .val (.int i2), .val (.int i3), .val (.int (Int32.ofNat W)), .val (.int (Int32.ofNat H)), .val (.int (Int32.ofNat (W + H))), .val (.int (Int32.ofNat A)), .val (.int (Int32.ofNat B)), .val (.ref b1), .val (.int (Int32.ofNat (min A B))), .val (.int (-1 : Int32)), .val (.int (-1 : Int32)), .val (.int (Int32.ofNat (min A B))), .val (.int (Int32.ofNat (max A B))), .val (.int (-1 : Int32)), .val (.long (((1 : Int64) <<< ((Int32.ofNat A) &&& 0x3f).toInt64) ||| ((1 : Int64) <<< ((Int32.ofNat B) &&& 0x3f).toInt64))), .second] [(.int (1 : Int32))])
        refine Go.step (fun tt kk => XS.goto X91.here hx rfl (pc0 := 188) (pc' := 192) rfl (hb hby at_188) (by decide) (by decide) kk) ?_
        show Go _ _ _ _ _ _ _ T91 (mkF m 192 #[.val (.int i0), .val (.int i1), .val (.int i2), .val (.int i3), .val (.int (Int32.ofNat W)), .val (.int (Int32.ofNat H)), .val (.int (Int32.ofNat (W + H))), .val (.int (Int32.ofNat A)), .val (.int (Int32.ofNat B)), .val (.ref b1), .val (.int (Int32.ofNat (min A B))), .val (.int (-1 : Int32)), .val (.int (-1 : Int32)), .val (.int (Int32.ofNat (min A B))), .val (.int (Int32.ofNat (max A B))), .val (.int (-1 : Int32)), .val (.long (((1 : Int64) <<< ((Int32.ofNat A) &&& 0x3f).toInt64) ||| ((1 : Int64) <<< ((Int32.ofNat B) &&& 0x3f).toInt64))), .second] [(.int (1 : Int32))])
        refine go_retN X91 hx (t := .boolean) hret (by simp) hlk (hb hby at_192) (w := (1 : Int32)) rfl ?_ (by decide) (by decide)
        try rw [e91]
        exact ⟨rfl, N91⟩
      · show Go _ _ _ _ _ _ _ T5 (mkF m 70 #[.val (.int i0), .val (.int i1), .val (.int i2), .val (.int i3), .val (.int (Int32.ofNat W)), .val (.int (Int32.ofNat H)), .val (.int (Int32.ofNat (W + H))), .val (.int (Int32.ofNat A)), .val (.int (Int32.ofNat B)), .val (.ref b1), .unset, .unset, .unset, .unset, .unset, .unset, .unset, .unset] [])
        refine Go.step (fun tt kk => XS.aload X5.here hx rfl (hb hby at_70) rfl rfl kk) ?_
        show Go _ _ _ _ _ _ _ T5 (mkF m 72 #[.val (.int i0), .val (.int i1), .val (.int i2), .val (.int i3), .val (.int (Int32.ofNat W)), .val (.int (Int32.ofNat H)), .val (.int (Int32.ofNat (W + H))), .val (.int (Int32.ofNat A)), .val (.int (Int32.ofNat B)), .val (.ref b1), .unset, .unset, .unset, .unset, .unset, .unset, .unset, .unset] [(.ref b1)])
        refine Go.step (fun tt kk => XS.iload X5.here hx rfl (hb hby at_72) rfl kk) ?_
        show Go _ _ _ _ _ _ _ T5 (mkF m 74 #[.val (.int i0), .val (.int i1), .val (.int i2), .val (.int i3), .val (.int (Int32.ofNat W)), .val (.int (Int32.ofNat H)), .val (.int (Int32.ofNat (W + H))), .val (.int (Int32.ofNat A)), .val (.int (Int32.ofNat B)), .val (.ref b1), .unset, .unset, .unset, .unset, .unset, .unset, .unset, .unset] [(.int (Int32.ofNat A)), (.ref b1)])
        obtain ⟨v92, T92, L92, X92, q92, st92⟩ := c_virt X5 hx hZ hown (y' := (⟨"com/example/gridwright/gridwright/engine/SmallDraft", "await", "(I)V"⟩ : MethodName)) (y := (⟨"com/example/gridwright/gridwright/engine/SmallDraft", "await", "(I)V"⟩ : MethodName)) (C := "com/example/gridwright/gridwright/engine/SmallDraft") (hw _ (List.mem_of_getElem? (i := 94) rfl)) (hw _ (List.mem_of_getElem? (i := 95) rfl)) (notFace_of_selects (args := #[]) (mvT hZ (hw _ (List.mem_of_getElem? (i := 97) rfl)))) (hw _ (List.mem_of_getElem? (i := 97) rfl)) (hw _ (List.mem_of_getElem? (i := 96) rfl)) (hw _ (List.mem_of_getElem? (i := 3) rfl)) (hw _ (List.mem_of_getElem? (i := 98) rfl)) (by decide) (a := b1) (argsL := [(.int (Int32.ofNat A))]) (rest := []) (rmAc l Z a0 hw [] b1 A W H (0 : Int64) (0 : Int32) (.ref b3) x2_0 x2_1 (0 : Int64) (0 : Int64) (1 : Int32) h5 n0 Z5 E5q F5q0 F5q1 F5q2 F5q3 F5q4 F5q5 F5q6 F5q7 F5q8 F5q9 F5q10 F5q11 gn_b1 (by omega) (by omega) hA0) e5 E5q pd_6 rfl (by rw [hml]; rfl) (W := 0) (by show 2 * 0 + _ ≤ _; exact Nat.le_of_eq rfl) (by decide) (by decide) (by decide) (by decide) (hb hby at_74) (Ls := #[.val (.int i0), .val (.int i1), .val (.int i2), .val (.int i3), .val (.int (Int32.ofNat W)), .val (.int (Int32.ofNat H)), .val (.int (Int32.ofNat (W + H))), .val (.int (Int32.ofNat A)), .val (.int (Int32.ofNat B)), .val (.ref b1), .unset, .unset, .unset, .unset, .unset, .unset, .unset, .unset])
        generalize e92 : T92.heap = h92 at q92
        obtain ⟨rfl, N92q, K92q, E92q, F92q0, F92q1, F92q2, F92q3, F92q4, F92q5, F92q6, F92q7, F92q8, F92q9, F92q10, F92q11⟩ := q92
        have N92 := Fr.app N5 N92q
        have Z92 : n0 ≤ h92.size := Nat.le_trans Z5 K92q.1
        refine Go.step (st92) ?_
        show Go _ _ _ _ _ _ _ T92 (mkF m 77 #[.val (.int i0), .val (.int i1), .val (.int i2), .val (.int i3), .val (.int (Int32.ofNat W)), .val (.int (Int32.ofNat H)), .val (.int (Int32.ofNat (W + H))), .val (.int (Int32.ofNat A)), .val (.int (Int32.ofNat B)), .val (.ref b1), .unset, .unset, .unset, .unset, .unset, .unset, .unset, .unset] [])
        refine Go.step (fun tt kk => XS.aload X92.here hx rfl (hb hby at_77) rfl rfl kk) ?_
        show Go _ _ _ _ _ _ _ T92 (mkF m 79 #[.val (.int i0), .val (.int i1), .val (.int i2), .val (.int i3), .val (.int (Int32.ofNat W)), .val (.int (Int32.ofNat H)), .val (.int (Int32.ofNat (W + H))), .val (.int (Int32.ofNat A)), .val (.int (Int32.ofNat B)), .val (.ref b1), .unset, .unset, .unset, .unset, .unset, .unset, .unset, .unset] [(.ref b1)])
        refine Go.step (fun tt kk => XS.iload X92.here hx rfl (hb hby at_79) rfl kk) ?_
        show Go _ _ _ _ _ _ _ T92 (mkF m 81 #[.val (.int i0), .val (.int i1), .val (.int i2), .val (.int i3), .val (.int (Int32.ofNat W)), .val (.int (Int32.ofNat H)), .val (.int (Int32.ofNat (W + H))), .val (.int (Int32.ofNat A)), .val (.int (Int32.ofNat B)), .val (.ref b1), .unset, .unset, .unset, .unset, .unset, .unset, .unset, .unset] [(.int (Int32.ofNat B)), (.ref b1)])
        obtain ⟨v93, T93, L93, X93, q93, st93⟩ := c_virt X92 hx hZ hown (y' := (⟨"com/example/gridwright/gridwright/engine/SmallDraft", "await", "(I)V"⟩ : MethodName)) (y := (⟨"com/example/gridwright/gridwright/engine/SmallDraft", "await", "(I)V"⟩ : MethodName)) (C := "com/example/gridwright/gridwright/engine/SmallDraft") (hw _ (List.mem_of_getElem? (i := 94) rfl)) (hw _ (List.mem_of_getElem? (i := 95) rfl)) (notFace_of_selects (args := #[]) (mvT hZ (hw _ (List.mem_of_getElem? (i := 97) rfl)))) (hw _ (List.mem_of_getElem? (i := 97) rfl)) (hw _ (List.mem_of_getElem? (i := 96) rfl)) (hw _ (List.mem_of_getElem? (i := 3) rfl)) (hw _ (List.mem_of_getElem? (i := 98) rfl)) (by decide) (a := b1) (argsL := [(.int (Int32.ofNat B))]) (rest := []) (rmAc l Z a0 hw [] b1 B W H (0 : Int64) (0 : Int32) (.ref b3) x2_0 x2_1 (0 : Int64) ((0 : Int64) ||| (sh (Int32.ofNat (A - H)))) (1 : Int32) h92 n0 Z92 E92q F92q0 F92q1 F92q2 F92q3 F92q4 F92q5 F92q6 F92q7 F92q8 F92q9 F92q10 F92q11 gn_b1 (by omega) (by omega) hB0) e92 E92q pd_6 rfl (by rw [hml]; rfl) (W := 0) (by show 2 * 0 + _ ≤ _; exact Nat.le_of_eq rfl) (by decide) (by decide) (by decide) (by decide) (hb hby at_81) (Ls := #[.val (.int i0), .val (.int i1), .val (.int i2), .val (.int i3), .val (.int (Int32.ofNat W)), .val (.int (Int32.ofNat H)), .val (.int (Int32.ofNat (W + H))), .val (.int (Int32.ofNat A)), .val (.int (Int32.ofNat B)), .val (.ref b1), .unset, .unset, .unset, .unset, .unset, .unset, .unset, .unset])
        generalize e93 : T93.heap = h93 at q93
        obtain ⟨rfl, N93q, K93q, E93q, F93q0, F93q1, F93q2, F93q3, F93q4, F93q5, F93q6, F93q7, F93q8, F93q9, F93q10, F93q11⟩ := q93
        have N93 := Fr.app N92 N93q
        have Z93 : n0 ≤ h93.size := Nat.le_trans Z92 K93q.1
        refine Go.step (st93) ?_
        show Go _ _ _ _ _ _ _ T93 (mkF m 84 #[.val (.int i0), .val (.int i1), .val (.int i2), .val (.int i3), .val (.int (Int32.ofNat W)), .val (.int (Int32.ofNat H)), .val (.int (Int32.ofNat (W + H))), .val (.int (Int32.ofNat A)), .val (.int (Int32.ofNat B)), .val (.ref b1), .unset, .unset, .unset, .unset, .unset, .unset, .unset, .unset] [])
        refine Go.step (fun tt kk => XS.aload X93.here hx rfl (hb hby at_84) rfl rfl kk) ?_
        show Go _ _ _ _ _ _ _ T93 (mkF m 86 #[.val (.int i0), .val (.int i1), .val (.int i2), .val (.int i3), .val (.int (Int32.ofNat W)), .val (.int (Int32.ofNat H)), .val (.int (Int32.ofNat (W + H))), .val (.int (Int32.ofNat A)), .val (.int (Int32.ofNat B)), .val (.ref b1), .unset, .unset, .unset, .unset, .unset, .unset, .unset, .unset] [(.ref b1)])
        refine Go.step (fun tt kk => XS.iload X93.here hx rfl (hb hby at_86) rfl kk) ?_
        show Go _ _ _ _ _ _ _ T93 (mkF m 88 #[.val (.int i0), .val (.int i1), .val (.int i2), .val (.int i3), .val (.int (Int32.ofNat W)), .val (.int (Int32.ofNat H)), .val (.int (Int32.ofNat (W + H))), .val (.int (Int32.ofNat A)), .val (.int (Int32.ofNat B)), .val (.ref b1), .unset, .unset, .unset, .unset, .unset, .unset, .unset, .unset] [(.int (Int32.ofNat A)), (.ref b1)])
        obtain ⟨v94, T94, L94, X94, q94, st94⟩ := c_virt X93 hx hZ hown (y' := (⟨"com/example/gridwright/gridwright/engine/SmallDraft", "await", "(I)V"⟩ : MethodName)) (y := (⟨"com/example/gridwright/gridwright/engine/SmallDraft", "await", "(I)V"⟩ : MethodName)) (C := "com/example/gridwright/gridwright/engine/SmallDraft") (hw _ (List.mem_of_getElem? (i := 94) rfl)) (hw _ (List.mem_of_getElem? (i := 95) rfl)) (notFace_of_selects (args := #[]) (mvT hZ (hw _ (List.mem_of_getElem? (i := 97) rfl)))) (hw _ (List.mem_of_getElem? (i := 97) rfl)) (hw _ (List.mem_of_getElem? (i := 96) rfl)) (hw _ (List.mem_of_getElem? (i := 3) rfl)) (hw _ (List.mem_of_getElem? (i := 98) rfl)) (by decide) (a := b1) (argsL := [(.int (Int32.ofNat A))]) (rest := []) (rmAc l Z a0 hw [] b1 A W H (0 : Int64) (0 : Int32) (.ref b3) x2_0 x2_1 (0 : Int64) (((0 : Int64) ||| (sh (Int32.ofNat (A - H)))) ||| (sh (Int32.ofNat (B - H)))) (1 : Int32) h93 n0 Z93 E93q F93q0 F93q1 F93q2 F93q3 F93q4 F93q5 F93q6 F93q7 F93q8 F93q9 F93q10 F93q11 gn_b1 (by omega) (by omega) hA0) e93 E93q pd_6 rfl (by rw [hml]; rfl) (W := 0) (by show 2 * 0 + _ ≤ _; exact Nat.le_of_eq rfl) (by decide) (by decide) (by decide) (by decide) (hb hby at_88) (Ls := #[.val (.int i0), .val (.int i1), .val (.int i2), .val (.int i3), .val (.int (Int32.ofNat W)), .val (.int (Int32.ofNat H)), .val (.int (Int32.ofNat (W + H))), .val (.int (Int32.ofNat A)), .val (.int (Int32.ofNat B)), .val (.ref b1), .unset, .unset, .unset, .unset, .unset, .unset, .unset, .unset])
        generalize e94 : T94.heap = h94 at q94
        obtain ⟨rfl, N94q, K94q, E94q, F94q0, F94q1, F94q2, F94q3, F94q4, F94q5, F94q6, F94q7, F94q8, F94q9, F94q10, F94q11⟩ := q94
        have N94 := Fr.app N93 N94q
        have Z94 : n0 ≤ h94.size := Nat.le_trans Z93 K94q.1
        refine Go.step (st94) ?_
        show Go _ _ _ _ _ _ _ T94 (mkF m 91 #[.val (.int i0), .val (.int i1), .val (.int i2), .val (.int i3), .val (.int (Int32.ofNat W)), .val (.int (Int32.ofNat H)), .val (.int (Int32.ofNat (W + H))), .val (.int (Int32.ofNat A)), .val (.int (Int32.ofNat B)), .val (.ref b1), .unset, .unset, .unset, .unset, .unset, .unset, .unset, .unset] [])
        have f95 : Fld Z h94 b1 "com/example/gridwright/gridwright/engine/SmallDraft" "waitingColumns" "J" (.long ((sh (Int32.ofNat (A - H))) ||| (sh (Int32.ofNat (B - H))))) := by
          have q := F94q10
          rwa [own_or0, own_3] at q
        have f96 : Fld Z h94 b1 "com/example/gridwright/gridwright/engine/SmallDraft" "rows" "Z" (.int (bi (true = true))) := by
          have q := F94q11
          exact q
        obtain ⟨t1, t2, t3⟩ := own_bits1 ⟨A - H, by omega⟩ ⟨B - H, by omega⟩
        obtain ⟨u1, u2, u3⟩ := own_one ⟨max (A - H) (B - H), by omega⟩
        dsimp only at t1 t2 t3 u1 u2 u3
        refine Go.step (fun tt kk => XS.aload X94.here hx rfl (hb hby at_91) rfl rfl kk) ?_
        show Go _ _ _ _ _ _ _ T94 (mkF m 93 #[.val (.int i0), .val (.int i1), .val (.int i2), .val (.int i3), .val (.int (Int32.ofNat W)), .val (.int (Int32.ofNat H)), .val (.int (Int32.ofNat (W + H))), .val (.int (Int32.ofNat A)), .val (.int (Int32.ofNat B)), .val (.ref b1), .unset, .unset, .unset, .unset, .unset, .unset, .unset, .unset] [(.ref b1)])
        obtain ⟨v97, T97, L97, X97, q97, st97⟩ := c_virt X94 hx hZ hown (y' := (⟨"com/example/gridwright/gridwright/engine/SmallDraft", "next", "()I"⟩ : MethodName)) (y := (⟨"com/example/gridwright/gridwright/engine/SmallDraft", "next", "()I"⟩ : MethodName)) (C := "com/example/gridwright/gridwright/engine/SmallDraft") (hw _ (List.mem_of_getElem? (i := 101) rfl)) (hw _ (List.mem_of_getElem? (i := 102) rfl)) (notFace_of_selects (args := #[]) (mvT hZ (hw _ (List.mem_of_getElem? (i := 104) rfl)))) (hw _ (List.mem_of_getElem? (i := 104) rfl)) (hw _ (List.mem_of_getElem? (i := 103) rfl)) (hw _ (List.mem_of_getElem? (i := 3) rfl)) (hw _ (List.mem_of_getElem? (i := 105) rfl)) (by decide) (a := b1) (argsL := []) (rest := []) (rmNc l Z a0 hw [] b1 W H (0 : Int64) (0 : Int32) (.ref b3) x2_0 x2_1 (0 : Int64) ((sh (Int32.ofNat (A - H))) ||| (sh (Int32.ofNat (B - H)))) true h94 n0 Z94 E94q F94q0 F94q1 F94q2 F94q3 F94q4 F94q5 F94q6 F94q7 F94q8 F94q9 f95 f96 gn_b1 t2 (Or.inr rfl)) e94 E94q pd_3 rfl (by rw [hml]; rfl) (W := 0) (by show 2 * 0 + _ ≤ _; exact Nat.le_of_eq rfl) (by decide) (by decide) (by decide) (by decide) (hb hby at_93) (Ls := #[.val (.int i0), .val (.int i1), .val (.int i2), .val (.int i3), .val (.int (Int32.ofNat W)), .val (.int (Int32.ofNat H)), .val (.int (Int32.ofNat (W + H))), .val (.int (Int32.ofNat A)), .val (.int (Int32.ofNat B)), .val (.ref b1), .unset, .unset, .unset, .unset, .unset, .unset, .unset, .unset])
        generalize e97 : T97.heap = h97 at q97
        obtain ⟨rfl, N97q, K97q, E97q, F97q0, F97q1, F97q2, F97q3, F97q4, F97q5, F97q6, F97q7, F97q8, F97q9, F97q10, F97q11⟩ := q97
        have N97 := Fr.app N94 N97q
        have Z97 : n0 ≤ h97.size := Nat.le_trans Z94 K97q.1
        refine Go.step (st97) ?_
        show Go _ _ _ _ _ _ _ T97 (mkF m 96 #[.val (.int i0), .val (.int i1), .val (.int i2), .val (.int i3), .val (.int (Int32.ofNat W)), .val (.int (Int32.ofNat H)), .val (.int (Int32.ofNat (W + H))), .val (.int (Int32.ofNat A)), .val (.int (Int32.ofNat B)), .val (.ref b1), .unset, .unset, .unset, .unset, .unset, .unset, .unset, .unset] [(.int (Int32.ofNat H + ntz ((sh (Int32.ofNat (A - H))) ||| (sh (Int32.ofNat (B - H))))))])
        refine Go.step (fun tt kk => XS.istore X97.here hx rfl (hb hby at_96) rfl (l' := #[.val (.int i0), .val (.int i1), .val (.int i2), .val (.int i3), .val (.int (Int32.ofNat W)), .val (.int (Int32.ofNat H)), .val (.int (Int32.ofNat (W + H))), .val (.int (Int32.ofNat A)), .val (.int (Int32.ofNat B)), .val (.ref b1), .val (.int (Int32.ofNat H + ntz ((sh (Int32.ofNat (A - H))) ||| (sh (Int32.ofNat (B - H)))))), .unset, .unset, .unset, .unset, .unset, .unset, .unset]) rfl kk) ?_
        show Go _ _ _ _ _ _ _ T97 (mkF m 98 #[.val (.int i0), .val (.int i1), .val (.int i2), .val (.int i3), .val (.int (Int32.ofNat W)), .val (.int (Int32.ofNat H)), .val (.int (Int32.ofNat (W + H))), .val (.int (Int32.ofNat A)), .val (.int (Int32.ofNat B)), .val (.ref b1), .val (.int (Int32.ofNat H + ntz ((sh (Int32.ofNat (A - H))) ||| (sh (Int32.ofNat (B - H)))))), .unset, .unset, .unset, .unset, .unset, .unset, .unset] [])
        rw [t1, ← Int32.ofNat_add, show H + min (A - H) (B - H) = min A B by omega]
        show Go _ _ _ _ _ _ _ T97 (mkF m 98 #[.val (.int i0), .val (.int i1), .val (.int i2), .val (.int i3), .val (.int (Int32.ofNat W)), .val (.int (Int32.ofNat H)), .val (.int (Int32.ofNat (W + H))), .val (.int (Int32.ofNat A)), .val (.int (Int32.ofNat B)), .val (.ref b1), .val (.int (Int32.ofNat (min A B))), .unset, .unset, .unset, .unset, .unset, .unset, .unset] [])
        have f98 : Fld Z h97 b1 "com/example/gridwright/gridwright/engine/SmallDraft" "waitingColumns" "J" (.long (sh (Int32.ofNat (max (A - H) (B - H))))) := by
          have q := F97q10
          rwa [t3, if_neg (show ¬ A - H = B - H by omega)] at q
        have f99 : Fld Z h97 b1 "com/example/gridwright/gridwright/engine/Draft" "taken" "J" (.long ((0 : Int64) ||| (sh (Int32.ofNat (min A B))))) := by
          have q := F97q2
          rwa [t1, ← Int32.ofNat_add, show H + min (A - H) (B - H) = min A B by omega] at q
        refine Go.step (fun tt kk => XS.aload X97.here hx rfl (hb hby at_98) rfl rfl kk) ?_
        show Go _ _ _ _ _ _ _ T97 (mkF m 100 #[.val (.int i0), .val (.int i1), .val (.int i2), .val (.int i3), .val (.int (Int32.ofNat W)), .val (.int (Int32.ofNat H)), .val (.int (Int32.ofNat (W + H))), .val (.int (Int32.ofNat A)), .val (.int (Int32.ofNat B)), .val (.ref b1), .val (.int (Int32.ofNat (min A B))), .unset, .unset, .unset, .unset, .unset, .unset, .unset] [(.ref b1)])
        obtain ⟨v100, T100, L100, X100, q100, st100⟩ := c_virt X97 hx hZ hown (y' := (⟨"com/example/gridwright/gridwright/engine/SmallDraft", "next", "()I"⟩ : MethodName)) (y := (⟨"com/example/gridwright/gridwright/engine/SmallDraft", "next", "()I"⟩ : MethodName)) (C := "com/example/gridwright/gridwright/engine/SmallDraft") (hw _ (List.mem_of_getElem? (i := 101) rfl)) (hw _ (List.mem_of_getElem? (i := 102) rfl)) (notFace_of_selects (args := #[]) (mvT hZ (hw _ (List.mem_of_getElem? (i := 104) rfl)))) (hw _ (List.mem_of_getElem? (i := 104) rfl)) (hw _ (List.mem_of_getElem? (i := 103) rfl)) (hw _ (List.mem_of_getElem? (i := 3) rfl)) (hw _ (List.mem_of_getElem? (i := 105) rfl)) (by decide) (a := b1) (argsL := []) (rest := []) (rmNc l Z a0 hw [] b1 W H ((0 : Int64) ||| (sh (Int32.ofNat (min A B)))) (0 : Int32) (.ref b3) x2_0 x2_1 (0 : Int64) (sh (Int32.ofNat (max (A - H) (B - H)))) false h97 n0 Z97 E97q F97q0 F97q1 f99 F97q3 F97q4 F97q5 F97q6 F97q7 F97q8 F97q9 f98 F97q11 gn_b1 u2 (Or.inl (by decide))) e97 E97q pd_3 rfl (by rw [hml]; rfl) (W := 0) (by show 2 * 0 + _ ≤ _; exact Nat.le_of_eq rfl) (by decide) (by decide) (by decide) (by decide) (hb hby at_100) (Ls := #[.val (.int i0), .val (.int i1), .val (.int i2), .val (.int i3), .val (.int (Int32.ofNat W)), .val (.int (Int32.ofNat H)), .val (.int (Int32.ofNat (W + H))), .val (.int (Int32.ofNat A)), .val (.int (Int32.ofNat B)), .val (.ref b1), .val (.int (Int32.ofNat (min A B))), .unset, .unset, .unset, .unset, .unset, .unset, .unset])
        generalize e100 : T100.heap = h100 at q100
        obtain ⟨rfl, N100q, K100q, E100q, F100q0, F100q1, F100q2, F100q3, F100q4, F100q5, F100q6, F100q7, F100q8, F100q9, F100q10, F100q11⟩ := q100
        have N100 := Fr.app N97 N100q
        have Z100 : n0 ≤ h100.size := Nat.le_trans Z97 K100q.1
        refine Go.step (st100) ?_
        show Go _ _ _ _ _ _ _ T100 (mkF m 103 #[.val (.int i0), .val (.int i1), .val (.int i2), .val (.int i3), .val (.int (Int32.ofNat W)), .val (.int (Int32.ofNat H)), .val (.int (Int32.ofNat (W + H))), .val (.int (Int32.ofNat A)), .val (.int (Int32.ofNat B)), .val (.ref b1), .val (.int (Int32.ofNat (min A B))), .unset, .unset, .unset, .unset, .unset, .unset, .unset] [(.int (Int32.ofNat H + ntz (sh (Int32.ofNat (max (A - H) (B - H))))))])
        refine Go.step (fun tt kk => XS.istore X100.here hx rfl (hb hby at_103) rfl (l' := #[.val (.int i0), .val (.int i1), .val (.int i2), .val (.int i3), .val (.int (Int32.ofNat W)), .val (.int (Int32.ofNat H)), .val (.int (Int32.ofNat (W + H))), .val (.int (Int32.ofNat A)), .val (.int (Int32.ofNat B)), .val (.ref b1), .val (.int (Int32.ofNat (min A B))), .val (.int (Int32.ofNat H + ntz (sh (Int32.ofNat (max (A - H) (B - H)))))), .unset, .unset, .unset, .unset, .unset, .unset]) rfl kk) ?_
        show Go _ _ _ _ _ _ _ T100 (mkF m 105 #[.val (.int i0), .val (.int i1), .val (.int i2), .val (.int i3), .val (.int (Int32.ofNat W)), .val (.int (Int32.ofNat H)), .val (.int (Int32.ofNat (W + H))), .val (.int (Int32.ofNat A)), .val (.int (Int32.ofNat B)), .val (.ref b1), .val (.int (Int32.ofNat (min A B))), .val (.int (Int32.ofNat H + ntz (sh (Int32.ofNat (max (A - H) (B - H)))))), .unset, .unset, .unset, .unset, .unset, .unset] [])
        rw [u1, ← Int32.ofNat_add, show H + max (A - H) (B - H) = max A B by omega]
        show Go _ _ _ _ _ _ _ T100 (mkF m 105 #[.val (.int i0), .val (.int i1), .val (.int i2), .val (.int i3), .val (.int (Int32.ofNat W)), .val (.int (Int32.ofNat H)), .val (.int (Int32.ofNat (W + H))), .val (.int (Int32.ofNat A)), .val (.int (Int32.ofNat B)), .val (.ref b1), .val (.int (Int32.ofNat (min A B))), .val (.int (Int32.ofNat (max A B))), .unset, .unset, .unset, .unset, .unset, .unset] [])
        have f101 : Fld Z h100 b1 "com/example/gridwright/gridwright/engine/SmallDraft" "waitingColumns" "J" (.long (0 : Int64)) := by
          have q := F100q10
          rwa [u3] at q
        have f102 : Fld Z h100 b1 "com/example/gridwright/gridwright/engine/Draft" "taken" "J" (.long (((0 : Int64) ||| (sh (Int32.ofNat (min A B)))) ||| (sh (Int32.ofNat (max A B))))) := by
          have q := F100q2
          rwa [u1, ← Int32.ofNat_add, show H + max (A - H) (B - H) = max A B by omega] at q
        refine Go.step (fun tt kk => XS.aload X100.here hx rfl (hb hby at_105) rfl rfl kk) ?_
        show Go _ _ _ _ _ _ _ T100 (mkF m 107 #[.val (.int i0), .val (.int i1), .val (.int i2), .val (.int i3), .val (.int (Int32.ofNat W)), .val (.int (Int32.ofNat H)), .val (.int (Int32.ofNat (W + H))), .val (.int (Int32.ofNat A)), .val (.int (Int32.ofNat B)), .val (.ref b1), .val (.int (Int32.ofNat (min A B))), .val (.int (Int32.ofNat (max A B))), .unset, .unset, .unset, .unset, .unset, .unset] [(.ref b1)])
        obtain ⟨v103, T103, L103, X103, q103, st103⟩ := c_virt X100 hx hZ hown (y' := (⟨"com/example/gridwright/gridwright/engine/SmallDraft", "next", "()I"⟩ : MethodName)) (y := (⟨"com/example/gridwright/gridwright/engine/SmallDraft", "next", "()I"⟩ : MethodName)) (C := "com/example/gridwright/gridwright/engine/SmallDraft") (hw _ (List.mem_of_getElem? (i := 101) rfl)) (hw _ (List.mem_of_getElem? (i := 102) rfl)) (notFace_of_selects (args := #[]) (mvT hZ (hw _ (List.mem_of_getElem? (i := 104) rfl)))) (hw _ (List.mem_of_getElem? (i := 104) rfl)) (hw _ (List.mem_of_getElem? (i := 103) rfl)) (hw _ (List.mem_of_getElem? (i := 3) rfl)) (hw _ (List.mem_of_getElem? (i := 105) rfl)) (by decide) (a := b1) (argsL := []) (rest := []) (rmNn l Z a0 hw [] b1 W H (((0 : Int64) ||| (sh (Int32.ofNat (min A B)))) ||| (sh (Int32.ofNat (max A B)))) (0 : Int32) (.ref b3) x2_0 x2_1 (0 : Int64) (0 : Int64) false h100 n0 Z100 E100q F100q0 F100q1 f102 F100q3 F100q4 F100q5 F100q6 F100q7 F100q8 F100q9 f101 F100q11 gn_b1 rfl rfl) e100 E100q pd_3 rfl (by rw [hml]; rfl) (W := 0) (by show 2 * 0 + _ ≤ _; exact Nat.le_of_eq rfl) (by decide) (by decide) (by decide) (by decide) (hb hby at_107) (Ls := #[.val (.int i0), .val (.int i1), .val (.int i2), .val (.int i3), .val (.int (Int32.ofNat W)), .val (.int (Int32.ofNat H)), .val (.int (Int32.ofNat (W + H))), .val (.int (Int32.ofNat A)), .val (.int (Int32.ofNat B)), .val (.ref b1), .val (.int (Int32.ofNat (min A B))), .val (.int (Int32.ofNat (max A B))), .unset, .unset, .unset, .unset, .unset, .unset])
        generalize e103 : T103.heap = h103 at q103
        obtain ⟨rfl, N103q, K103q, E103q, F103q0, F103q1, F103q2, F103q3, F103q4, F103q5, F103q6, F103q7, F103q8, F103q9, F103q10, F103q11⟩ := q103
        have N103 := Fr.app N100 N103q
        have Z103 : n0 ≤ h103.size := Nat.le_trans Z100 K103q.1
        refine Go.step (st103) ?_
        show Go _ _ _ _ _ _ _ T103 (mkF m 110 #[.val (.int i0), .val (.int i1), .val (.int i2), .val (.int i3), .val (.int (Int32.ofNat W)), .val (.int (Int32.ofNat H)), .val (.int (Int32.ofNat (W + H))), .val (.int (Int32.ofNat A)), .val (.int (Int32.ofNat B)), .val (.ref b1), .val (.int (Int32.ofNat (min A B))), .val (.int (Int32.ofNat (max A B))), .unset, .unset, .unset, .unset, .unset, .unset] [(.int (-1 : Int32))])
        refine Go.step (fun tt kk => XS.istore X103.here hx rfl (hb hby at_110) rfl (l' := #[.val (.int i0), .val (.int i1), .val (.int i2), .val (.int i3), .val (.int (Int32.ofNat W)), .val (.int (Int32.ofNat H)), .val (.int (Int32.ofNat (W + H))), .val (.int (Int32.ofNat A)), .val (.int (Int32.ofNat B)), .val (.ref b1), .val (.int (Int32.ofNat (min A B))), .val (.int (Int32.ofNat (max A B))), .val (.int (-1 : Int32)), .unset, .unset, .unset, .unset, .unset]) rfl kk) ?_
        show Go _ _ _ _ _ _ _ T103 (mkF m 112 #[.val (.int i0), .val (.int i1), .val (.int i2), .val (.int i3), .val (.int (Int32.ofNat W)), .val (.int (Int32.ofNat H)), .val (.int (Int32.ofNat (W + H))), .val (.int (Int32.ofNat A)), .val (.int (Int32.ofNat B)), .val (.ref b1), .val (.int (Int32.ofNat (min A B))), .val (.int (Int32.ofNat (max A B))), .val (.int (-1 : Int32)), .unset, .unset, .unset, .unset, .unset] [])
        refine Go.step (fun tt kk => XS.iload X103.here hx rfl (hb hby at_112) rfl kk) ?_
        show Go _ _ _ _ _ _ _ T103 (mkF m 114 #[.val (.int i0), .val (.int i1), .val (.int i2), .val (.int i3), .val (.int (Int32.ofNat W)), .val (.int (Int32.ofNat H)), .val (.int (Int32.ofNat (W + H))), .val (.int (Int32.ofNat A)), .val (.int (Int32.ofNat B)), .val (.ref b1), .val (.int (Int32.ofNat (min A B))), .val (.int (Int32.ofNat (max A B))), .val (.int (-1 : Int32)), .unset, .unset, .unset, .unset, .unset] [(.int (Int32.ofNat A))])
        refine Go.step (fun tt kk => XS.iload X103.here hx rfl (hb hby at_114) rfl kk) ?_
        show Go _ _ _ _ _ _ _ T103 (mkF m 116 #[.val (.int i0), .val (.int i1), .val (.int i2), .val (.int i3), .val (.int (Int32.ofNat W)), .val (.int (Int32.ofNat H)), .val (.int (Int32.ofNat (W + H))), .val (.int (Int32.ofNat A)), .val (.int (Int32.ofNat B)), .val (.ref b1), .val (.int (Int32.ofNat (min A B))), .val (.int (Int32.ofNat (max A B))), .val (.int (-1 : Int32)), .unset, .unset, .unset, .unset, .unset] [(.int (Int32.ofNat B)), (.int (Int32.ofNat A))])
        obtain ⟨v104, T104, L104, X104, q104, st104⟩ := c_static X103 hx hZ hown (y := (⟨"java/lang/Math", "min", "(II)I"⟩ : MethodName)) (hw _ (List.mem_of_getElem? (i := 117) rfl)) (hw _ (List.mem_of_getElem? (i := 118) rfl)) (hw _ (List.mem_of_getElem? (i := 37) rfl)) (hw _ (List.mem_of_getElem? (i := 119) rfl)) (by decide) (argsL := [(.int (Int32.ofNat A)), (.int (Int32.ofNat B))]) (rest := []) (rmmn l Z a0 hw [] (Int32.ofNat A) (Int32.ofNat B) h103 n0 Z103) e103 pd_0 rfl (by rw [hml]; rfl) (W := 0) (by show 2 * 0 + _ ≤ _; exact Nat.le_of_eq rfl) (by decide) (by decide) (by decide) (by decide) (hb hby at_116) (Ls := #[.val (.int i0), .val (.int i1), .val (.int i2), .val (.int i3), .val (.int (Int32.ofNat W)), .val (.int (Int32.ofNat H)), .val (.int (Int32.ofNat (W + H))), .val (.int (Int32.ofNat A)), .val (.int (Int32.ofNat B)), .val (.ref b1), .val (.int (Int32.ofNat (min A B))), .val (.int (Int32.ofNat (max A B))), .val (.int (-1 : Int32)), .unset, .unset, .unset, .unset, .unset])
        obtain ⟨rfl, rfl, e104⟩ := q104
        have N104 := Fr.app N103 (Fr.nil n0)
        refine Go.step (st104) ?_
        show Go _ _ _ _ _ _ _ T104 (mkF m 119 #[.val (.int i0), .val (.int i1), .val (.int i2), .val (.int i3), .val (.int (Int32.ofNat W)), .val (.int (Int32.ofNat H)), .val (.int (Int32.ofNat (W + H))), .val (.int (Int32.ofNat A)), .val (.int (Int32.ofNat B)), .val (.ref b1), .val (.int (Int32.ofNat (min A B))), .val (.int (Int32.ofNat (max A B))), .val (.int (-1 : Int32)), .unset, .unset, .unset, .unset, .unset] [(.int (mn (Int32.ofNat A) (Int32.ofNat B)))])
        rw [own_min _ _ (by omega) (by omega)]
        show Go _ _ _ _ _ _ _ T104 (mkF m 119 #[.val (.int i0), .val (.int i1), .val (.int i2), .val (.int i3), .val (.int (Int32.ofNat W)), .val (.int (Int32.ofNat H)), .val (.int (Int32.ofNat (W + H))), .val (.int (Int32.ofNat A)), .val (.int (Int32.ofNat B)), .val (.ref b1), .val (.int (Int32.ofNat (min A B))), .val (.int (Int32.ofNat (max A B))), .val (.int (-1 : Int32)), .unset, .unset, .unset, .unset, .unset] [(.int (Int32.ofNat (min A B)))])
        refine Go.step (fun tt kk => XS.istore X104.here hx rfl (hb hby at_119) rfl (l' := #[.val (.int i0), .val (.int i1), .val (.int i2), .val (.int i3), .val (.int (Int32.ofNat W)), .val (.int (Int32.ofNat H)), .val (.int (Int32.ofNat (W + H))), .val (.int (Int32.ofNat A)), .val (.int (Int32.ofNat B)), .val (.ref b1), .val (.int (Int32.ofNat (min A B))), .val (.int (Int32.ofNat (max A B))), .val (.int (-1 : Int32)), .val (.int (Int32.ofNat (min A B))), .unset, .unset, .unset, .unset]) rfl kk) ?_
        show Go _ _ _ _ _ _ _ T104 (mkF m 121 #[.val (.int i0), .val (.int i1), .val (.int i2), .val (.int i3), .val (.int (Int32.ofNat W)), .val (.int (Int32.ofNat H)), .val (.int (Int32.ofNat (W + H))), .val (.int (Int32.ofNat A)), .val (.int (Int32.ofNat B)), .val (.ref b1), .val (.int (Int32.ofNat (min A B))), .val (.int (Int32.ofNat (max A B))), .val (.int (-1 : Int32)), .val (.int (Int32.ofNat (min A B))), .unset, .unset, .unset, .unset] [])
        refine Go.step (fun tt kk => XS.iload X104.here hx rfl (hb hby at_121) rfl kk) ?_
        show Go _ _ _ _ _ _ _ T104 (mkF m 123 #[.val (.int i0), .val (.int i1), .val (.int i2), .val (.int i3), .val (.int (Int32.ofNat W)), .val (.int (Int32.ofNat H)), .val (.int (Int32.ofNat (W + H))), .val (.int (Int32.ofNat A)), .val (.int (Int32.ofNat B)), .val (.ref b1), .val (.int (Int32.ofNat (min A B))), .val (.int (Int32.ofNat (max A B))), .val (.int (-1 : Int32)), .val (.int (Int32.ofNat (min A B))), .unset, .unset, .unset, .unset] [(.int (Int32.ofNat A))])
        refine Go.step (fun tt kk => XS.iload X104.here hx rfl (hb hby at_123) rfl kk) ?_
        show Go _ _ _ _ _ _ _ T104 (mkF m 125 #[.val (.int i0), .val (.int i1), .val (.int i2), .val (.int i3), .val (.int (Int32.ofNat W)), .val (.int (Int32.ofNat H)), .val (.int (Int32.ofNat (W + H))), .val (.int (Int32.ofNat A)), .val (.int (Int32.ofNat B)), .val (.ref b1), .val (.int (Int32.ofNat (min A B))), .val (.int (Int32.ofNat (max A B))), .val (.int (-1 : Int32)), .val (.int (Int32.ofNat (min A B))), .unset, .unset, .unset, .unset] [(.int (Int32.ofNat B)), (.int (Int32.ofNat A))])
        obtain ⟨v105, T105, L105, X105, q105, st105⟩ := c_static X104 hx hZ hown (y := (⟨"java/lang/Math", "max", "(II)I"⟩ : MethodName)) (hw _ (List.mem_of_getElem? (i := 120) rfl)) (hw _ (List.mem_of_getElem? (i := 46) rfl)) (hw _ (List.mem_of_getElem? (i := 37) rfl)) (hw _ (List.mem_of_getElem? (i := 47) rfl)) (by decide) (argsL := [(.int (Int32.ofNat A)), (.int (Int32.ofNat B))]) (rest := []) (rmmx l Z a0 hw [] (Int32.ofNat A) (Int32.ofNat B) h103 n0 Z103) e104 pd_0 rfl (by rw [hml]; rfl) (W := 0) (by show 2 * 0 + _ ≤ _; exact Nat.le_of_eq rfl) (by decide) (by decide) (by decide) (by decide) (hb hby at_125) (Ls := #[.val (.int i0), .val (.int i1), .val (.int i2), .val (.int i3), .val (.int (Int32.ofNat W)), .val (.int (Int32.ofNat H)), .val (.int (Int32.ofNat (W + H))), .val (.int (Int32.ofNat A)), .val (.int (Int32.ofNat B)), .val (.ref b1), .val (.int (Int32.ofNat (min A B))), .val (.int (Int32.ofNat (max A B))), .val (.int (-1 : Int32)), .val (.int (Int32.ofNat (min A B))), .unset, .unset, .unset, .unset])
        obtain ⟨rfl, rfl, e105⟩ := q105
        have N105 := Fr.app N104 (Fr.nil n0)
        refine Go.step (st105) ?_
        show Go _ _ _ _ _ _ _ T105 (mkF m 128 #[.val (.int i0), .val (.int i1), .val (.int i2), .val (.int i3), .val (.int (Int32.ofNat W)), .val (.int (Int32.ofNat H)), .val (.int (Int32.ofNat (W + H))), .val (.int (Int32.ofNat A)), .val (.int (Int32.ofNat B)), .val (.ref b1), .val (.int (Int32.ofNat (min A B))), .val (.int (Int32.ofNat (max A B))), .val (.int (-1 : Int32)), .val (.int (Int32.ofNat (min A B))), .unset, .unset, .unset, .unset] [(.int (mx (Int32.ofNat A) (Int32.ofNat B)))])
        rw [own_max _ _ (by omega) (by omega)]
        show Go _ _ _ _ _ _ _ T105 (mkF m 128 #[.val (.int i0), .val (.int i1), .val (.int i2), .val (.int i3), .val (.int (Int32.ofNat W)), .val (.int (Int32.ofNat H)), .val (.int (Int32.ofNat (W + H))), .val (.int (Int32.ofNat A)), .val (.int (Int32.ofNat B)), .val (.ref b1), .val (.int (Int32.ofNat (min A B))), .val (.int (Int32.ofNat (max A B))), .val (.int (-1 : Int32)), .val (.int (Int32.ofNat (min A B))), .unset, .unset, .unset, .unset] [(.int (Int32.ofNat (max A B)))])
        refine Go.step (fun tt kk => XS.istore X105.here hx rfl (hb hby at_128) rfl (l' := #[.val (.int i0), .val (.int i1), .val (.int i2), .val (.int i3), .val (.int (Int32.ofNat W)), .val (.int (Int32.ofNat H)), .val (.int (Int32.ofNat (W + H))), .val (.int (Int32.ofNat A)), .val (.int (Int32.ofNat B)), .val (.ref b1), .val (.int (Int32.ofNat (min A B))), .val (.int (Int32.ofNat (max A B))), .val (.int (-1 : Int32)), .val (.int (Int32.ofNat (min A B))), .val (.int (Int32.ofNat (max A B))), .unset, .unset, .unset]) rfl kk) ?_
        show Go _ _ _ _ _ _ _ T105 (mkF m 130 #[.val (.int i0), .val (.int i1), .val (.int i2), .val (.int i3), .val (.int (Int32.ofNat W)), .val (.int (Int32.ofNat H)), .val (.int (Int32.ofNat (W + H))), .val (.int (Int32.ofNat A)), .val (.int (Int32.ofNat B)), .val (.ref b1), .val (.int (Int32.ofNat (min A B))), .val (.int (Int32.ofNat (max A B))), .val (.int (-1 : Int32)), .val (.int (Int32.ofNat (min A B))), .val (.int (Int32.ofNat (max A B))), .unset, .unset, .unset] [])
        refine Go.step (fun tt kk => XS.iload X105.here hx rfl (hb hby at_130) rfl kk) ?_
        show Go _ _ _ _ _ _ _ T105 (mkF m 132 #[.val (.int i0), .val (.int i1), .val (.int i2), .val (.int i3), .val (.int (Int32.ofNat W)), .val (.int (Int32.ofNat H)), .val (.int (Int32.ofNat (W + H))), .val (.int (Int32.ofNat A)), .val (.int (Int32.ofNat B)), .val (.ref b1), .val (.int (Int32.ofNat (min A B))), .val (.int (Int32.ofNat (max A B))), .val (.int (-1 : Int32)), .val (.int (Int32.ofNat (min A B))), .val (.int (Int32.ofNat (max A B))), .unset, .unset, .unset] [(.int (Int32.ofNat (max A B)))])
        refine Go.step (fun tt kk => XS.iload X105.here hx rfl (hb hby at_132) rfl kk) ?_
        show Go _ _ _ _ _ _ _ T105 (mkF m 134 #[.val (.int i0), .val (.int i1), .val (.int i2), .val (.int i3), .val (.int (Int32.ofNat W)), .val (.int (Int32.ofNat H)), .val (.int (Int32.ofNat (W + H))), .val (.int (Int32.ofNat A)), .val (.int (Int32.ofNat B)), .val (.ref b1), .val (.int (Int32.ofNat (min A B))), .val (.int (Int32.ofNat (max A B))), .val (.int (-1 : Int32)), .val (.int (Int32.ofNat (min A B))), .val (.int (Int32.ofNat (max A B))), .unset, .unset, .unset] [(.int (Int32.ofNat (min A B))), (.int (Int32.ofNat (max A B)))])
        refine Go.step (fun tt kk => XS.icmpNo X105.here hx rfl (hb hby at_134) rfl (feq (mt (own_eq _ _ (by omega) (by omega)).mp (by omega))).1 kk) ?_
        show Go _ _ _ _ _ _ _ T105 (mkF m 137 #[.val (.int i0), .val (.int i1), .val (.int i2), .val (.int i3), .val (.int (Int32.ofNat W)), .val (.int (Int32.ofNat H)), .val (.int (Int32.ofNat (W + H))), .val (.int (Int32.ofNat A)), .val (.int (Int32.ofNat B)), .val (.ref b1), .val (.int (Int32.ofNat (min A B))), .val (.int (Int32.ofNat (max A B))), .val (.int (-1 : Int32)), .val (.int (Int32.ofNat (min A B))), .val (.int (Int32.ofNat (max A B))), .unset, .unset, .unset] [])
        refine Go.step (fun tt kk => XS.iload X105.here hx rfl (hb hby at_137) rfl kk) ?_
        show Go _ _ _ _ _ _ _ T105 (mkF m 139 #[.val (.int i0), .val (.int i1), .val (.int i2), .val (.int i3), .val (.int (Int32.ofNat W)), .val (.int (Int32.ofNat H)), .val (.int (Int32.ofNat (W + H))), .val (.int (Int32.ofNat A)), .val (.int (Int32.ofNat B)), .val (.ref b1), .val (.int (Int32.ofNat (min A B))), .val (.int (Int32.ofNat (max A B))), .val (.int (-1 : Int32)), .val (.int (Int32.ofNat (min A B))), .val (.int (Int32.ofNat (max A B))), .unset, .unset, .unset] [(.int (Int32.ofNat (max A B)))])
        refine Go.step (fun tt kk => XS.goto X105.here hx rfl (pc0 := 139) (pc' := 143) rfl (hb hby at_139) (by decide) (by decide) kk) ?_
        show Go _ _ _ _ _ _ _ T105 (mkF m 143 #[.val (.int i0), .val (.int i1), .val (.int i2), .val (.int i3), .val (.int (Int32.ofNat W)), .val (.int (Int32.ofNat H)), .val (.int (Int32.ofNat (W + H))), .val (.int (Int32.ofNat A)), .val (.int (Int32.ofNat B)), .val (.ref b1), .val (.int (Int32.ofNat (min A B))), .val (.int (Int32.ofNat (max A B))), .val (.int (-1 : Int32)), .val (.int (Int32.ofNat (min A B))), .val (.int (Int32.ofNat (max A B))), .unset, .unset, .unset] [(.int (Int32.ofNat (max A B)))])
        refine Go.step (fun tt kk => XS.istore X105.here hx rfl (hb hby at_143) rfl (l' := #[.val (.int i0), .val (.int i1), .val (.int i2), .val (.int i3), .val (.int (Int32.ofNat W)), .val (.int (Int32.ofNat H)), .val (.int (Int32.ofNat (W + H))), .val (.int (Int32.ofNat A)), .val (.int (Int32.ofNat B)), .val (.ref b1), .val (.int (Int32.ofNat (min A B))), .val (.int (Int32.ofNat (max A B))), .val (.int (-1 : Int32)), .val (.int (Int32.ofNat (min A B))), .val (.int (Int32.ofNat (max A B))), .val (.int (Int32.ofNat (max A B))), .unset, .unset]) rfl kk) ?_
        show Go _ _ _ _ _ _ _ T105 (mkF m 145 #[.val (.int i0), .val (.int i1), .val (.int i2), .val (.int i3), .val (.int (Int32.ofNat W)), .val (.int (Int32.ofNat H)), .val (.int (Int32.ofNat (W + H))), .val (.int (Int32.ofNat A)), .val (.int (Int32.ofNat B)), .val (.ref b1), .val (.int (Int32.ofNat (min A B))), .val (.int (Int32.ofNat (max A B))), .val (.int (-1 : Int32)), .val (.int (Int32.ofNat (min A B))), .val (.int (Int32.ofNat (max A B))), .val (.int (Int32.ofNat (max A B))), .unset, .unset] [])
        refine Go.step (fun tt kk => XS.lconst X105.here hx rfl (hb hby at_145) kk) ?_
        show Go _ _ _ _ _ _ _ T105 (mkF m 146 #[.val (.int i0), .val (.int i1), .val (.int i2), .val (.int i3), .val (.int (Int32.ofNat W)), .val (.int (Int32.ofNat H)), .val (.int (Int32.ofNat (W + H))), .val (.int (Int32.ofNat A)), .val (.int (Int32.ofNat B)), .val (.ref b1), .val (.int (Int32.ofNat (min A B))), .val (.int (Int32.ofNat (max A B))), .val (.int (-1 : Int32)), .val (.int (Int32.ofNat (min A B))), .val (.int (Int32.ofNat (max A B))), .val (.int (Int32.ofNat (max A B))), .unset, .unset] [(.long (1 : Int64))])
        refine Go.step (fun tt kk => XS.iload X105.here hx rfl (hb hby at_146) rfl kk) ?_
        show Go _ _ _ _ _ _ _ T105 (mkF m 148 #[.val (.int i0), .val (.int i1), .val (.int i2), .val (.int i3), .val (.int (Int32.ofNat W)), .val (.int (Int32.ofNat H)), .val (.int (Int32.ofNat (W + H))), .val (.int (Int32.ofNat A)), .val (.int (Int32.ofNat B)), .val (.ref b1), .val (.int (Int32.ofNat (min A B))), .val (.int (Int32.ofNat (max A B))), .val (.int (-1 : Int32)), .val (.int (Int32.ofNat (min A B))), .val (.int (Int32.ofNat (max A B))), .val (.int (Int32.ofNat (max A B))), .unset, .unset] [(.int (Int32.ofNat A)), (.long (1 : Int64))])
        refine Go.step (fun tt kk => XS.lshl X105.here hx rfl (hb hby at_148) rfl kk) ?_
        show Go _ _ _ _ _ _ _ T105 (mkF m 149 #[.val (.int i0), .val (.int i1), .val (.int i2), .val (.int i3), .val (.int (Int32.ofNat W)), .val (.int (Int32.ofNat H)), .val (.int (Int32.ofNat (W + H))), .val (.int (Int32.ofNat A)), .val (.int (Int32.ofNat B)), .val (.ref b1), .val (.int (Int32.ofNat (min A B))), .val (.int (Int32.ofNat (max A B))), .val (.int (-1 : Int32)), .val (.int (Int32.ofNat (min A B))), .val (.int (Int32.ofNat (max A B))), .val (.int (Int32.ofNat (max A B))), .unset, .unset] [(.long ((1 : Int64) <<< ((Int32.ofNat A) &&& 0x3f).toInt64))])
        refine Go.step (fun tt kk => XS.lconst X105.here hx rfl (hb hby at_149) kk) ?_
        show Go _ _ _ _ _ _ _ T105 (mkF m 150 #[.val (.int i0), .val (.int i1), .val (.int i2), .val (.int i3), .val (.int (Int32.ofNat W)), .val (.int (Int32.ofNat H)), .val (.int (Int32.ofNat (W + H))), .val (.int (Int32.ofNat A)), .val (.int (Int32.ofNat B)), .val (.ref b1), .val (.int (Int32.ofNat (min A B))), .val (.int (Int32.ofNat (max A B))), .val (.int (-1 : Int32)), .val (.int (Int32.ofNat (min A B))), .val (.int (Int32.ofNat (max A B))), .val (.int (Int32.ofNat (max A B))), .unset, .unset] [(.long (1 : Int64)), (.long ((1 : Int64) <<< ((Int32.ofNat A) &&& 0x3f).toInt64))])
        refine Go.step (fun tt kk => XS.iload X105.here hx rfl (hb hby at_150) rfl kk) ?_
        show Go _ _ _ _ _ _ _ T105 (mkF m 152 #[.val (.int i0), .val (.int i1), .val (.int i2), .val (.int i3), .val (.int (Int32.ofNat W)), .val (.int (Int32.ofNat H)), .val (.int (Int32.ofNat (W + H))), .val (.int (Int32.ofNat A)), .val (.int (Int32.ofNat B)), .val (.ref b1), .val (.int (Int32.ofNat (min A B))), .val (.int (Int32.ofNat (max A B))), .val (.int (-1 : Int32)), .val (.int (Int32.ofNat (min A B))), .val (.int (Int32.ofNat (max A B))), .val (.int (Int32.ofNat (max A B))), .unset, .unset] [(.int (Int32.ofNat B)), (.long (1 : Int64)), (.long ((1 : Int64) <<< ((Int32.ofNat A) &&& 0x3f).toInt64))])
        refine Go.step (fun tt kk => XS.lshl X105.here hx rfl (hb hby at_152) rfl kk) ?_
        show Go _ _ _ _ _ _ _ T105 (mkF m 153 #[.val (.int i0), .val (.int i1), .val (.int i2), .val (.int i3), .val (.int (Int32.ofNat W)), .val (.int (Int32.ofNat H)), .val (.int (Int32.ofNat (W + H))), .val (.int (Int32.ofNat A)), .val (.int (Int32.ofNat B)), .val (.ref b1), .val (.int (Int32.ofNat (min A B))), .val (.int (Int32.ofNat (max A B))), .val (.int (-1 : Int32)), .val (.int (Int32.ofNat (min A B))), .val (.int (Int32.ofNat (max A B))), .val (.int (Int32.ofNat (max A B))), .unset, .unset] [(.long ((1 : Int64) <<< ((Int32.ofNat B) &&& 0x3f).toInt64)), (.long ((1 : Int64) <<< ((Int32.ofNat A) &&& 0x3f).toInt64))])
        refine Go.step (fun tt kk => XS.lor X105.here hx rfl (hb hby at_153) rfl kk) ?_
        show Go _ _ _ _ _ _ _ T105 (mkF m 154 #[.val (.int i0), .val (.int i1), .val (.int i2), .val (.int i3), .val (.int (Int32.ofNat W)), .val (.int (Int32.ofNat H)), .val (.int (Int32.ofNat (W + H))), .val (.int (Int32.ofNat A)), .val (.int (Int32.ofNat B)), .val (.ref b1), .val (.int (Int32.ofNat (min A B))), .val (.int (Int32.ofNat (max A B))), .val (.int (-1 : Int32)), .val (.int (Int32.ofNat (min A B))), .val (.int (Int32.ofNat (max A B))), .val (.int (Int32.ofNat (max A B))), .unset, .unset] [(.long (((1 : Int64) <<< ((Int32.ofNat A) &&& 0x3f).toInt64) ||| ((1 : Int64) <<< ((Int32.ofNat B) &&& 0x3f).toInt64)))])
        refine Go.step (fun tt kk => XS.lstore X105.here hx rfl (hb hby at_154) rfl (l' := #[.val (.int i0), .val (.int i1), .val (.int i2), .val (.int i3), .val (.int (Int32.ofNat W)), .val (.int (Int32.ofNat H)), .val (.int (Int32.ofNat (W + H))), .val (.int (Int32.ofNat A)), .val (.int (Int32.ofNat B)), .val (.ref b1), .val (.int (Int32.ofNat (min A B))), .val (.int (Int32.ofNat (max A B))), .val (.int (-1 : Int32)), .val (.int (Int32.ofNat (min A B))), .val (.int (Int32.ofNat (max A B))), .val (.int (Int32.ofNat (max A B))), .val (.long (((1 : Int64) <<< ((Int32.ofNat A) &&& 0x3f).toInt64) ||| ((1 : Int64) <<< ((Int32.ofNat B) &&& 0x3f).toInt64))), .second]) rfl kk) ?_
        show Go _ _ _ _ _ _ _ T105 (mkF m 156 #[.val (.int i0), .val (.int i1), .val (.int i2), .val (.int i3), .val (.int (Int32.ofNat W)), .val (.int (Int32.ofNat H)), .val (.int (Int32.ofNat (W + H))), .val (.int (Int32.ofNat A)), .val (.int (Int32.ofNat B)), .val (.ref b1), .val (.int (Int32.ofNat (min A B))), .val (.int (Int32.ofNat (max A B))), .val (.int (-1 : Int32)), .val (.int (Int32.ofNat (min A B))), .val (.int (Int32.ofNat (max A B))), .val (.int (Int32.ofNat (max A B))), .val (.long (((1 : Int64) <<< ((Int32.ofNat A) &&& 0x3f).toInt64) ||| ((1 : Int64) <<< ((Int32.ofNat B) &&& 0x3f).toInt64))), .second] [])
        refine Go.step (fun tt kk => XS.iload X105.here hx rfl (hb hby at_156) rfl kk) ?_
        show Go _ _ _ _ _ _ _ T105 (mkF m 158 #[.val (.int i0), .val (.int i1), .val (.int i2), .val (.int i3), .val (.int (Int32.ofNat W)), .val (.int (Int32.ofNat H)), .val (.int (Int32.ofNat (W + H))), .val (.int (Int32.ofNat A)), .val (.int (Int32.ofNat B)), .val (.ref b1), .val (.int (Int32.ofNat (min A B))), .val (.int (Int32.ofNat (max A B))), .val (.int (-1 : Int32)), .val (.int (Int32.ofNat (min A B))), .val (.int (Int32.ofNat (max A B))), .val (.int (Int32.ofNat (max A B))), .val (.long (((1 : Int64) <<< ((Int32.ofNat A) &&& 0x3f).toInt64) ||| ((1 : Int64) <<< ((Int32.ofNat B) &&& 0x3f).toInt64))), .second] [(.int (Int32.ofNat (min A B)))])
        refine Go.step (fun tt kk => XS.iload X105.here hx rfl (hb hby at_158) rfl kk) ?_
        show Go _ _ _ _ _ _ _ T105 (mkF m 160 #[.val (.int i0), .val (.int i1), .val (.int i2), .val (.int i3), .val (.int (Int32.ofNat W)), .val (.int (Int32.ofNat H)), .val (.int (Int32.ofNat (W + H))), .val (.int (Int32.ofNat A)), .val (.int (Int32.ofNat B)), .val (.ref b1), .val (.int (Int32.ofNat (min A B))), .val (.int (Int32.ofNat (max A B))), .val (.int (-1 : Int32)), .val (.int (Int32.ofNat (min A B))), .val (.int (Int32.ofNat (max A B))), .val (.int (Int32.ofNat (max A B))), .val (.long (((1 : Int64) <<< ((Int32.ofNat A) &&& 0x3f).toInt64) ||| ((1 : Int64) <<< ((Int32.ofNat B) &&& 0x3f).toInt64))), .second] [(.int (Int32.ofNat (min A B))), (.int (Int32.ofNat (min A B)))])
        refine Go.step (fun tt kk => XS.icmpNo X105.here hx rfl (hb hby at_160) rfl (teq ((own_eq _ _ (by omega) (by omega)).mpr (by omega))).2 kk) ?_
        show Go _ _ _ _ _ _ _ T105 (mkF m 163 #[.val (.int i0), .val (.int i1), .val (.int i2), .val (.int i3), .val (.int (Int32.ofNat W)), .val (.int (Int32.ofNat H)), .val (.int (Int32.ofNat (W + H))), .val (.int (Int32.ofNat A)), .val (.int (Int32.ofNat B)), .val (.ref b1), .val (.int (Int32.ofNat (min A B))), .val (.int (Int32.ofNat (max A B))), .val (.int (-1 : Int32)), .val (.int (Int32.ofNat (min A B))), .val (.int (Int32.ofNat (max A B))), .val (.int (Int32.ofNat (max A B))), .val (.long (((1 : Int64) <<< ((Int32.ofNat A) &&& 0x3f).toInt64) ||| ((1 : Int64) <<< ((Int32.ofNat B) &&& 0x3f).toInt64))), .second] [])
        refine Go.step (fun tt kk => XS.iload X105.here hx rfl (hb hby at_163) rfl kk) ?_
        show Go _ _ _ _ _ _ _ T105 (mkF m 165 #[.val (.int i0), .val (.int i1), .val (.int i2), .val (.int i3), .val (.int (Int32.ofNat W)), .val (.int (Int32.ofNat H)), .val (.int (Int32.ofNat (W + H))), .val (.int (Int32.ofNat A)), .val (.int (Int32.ofNat B)), .val (.ref b1), .val (.int (Int32.ofNat (min A B))), .val (.int (Int32.ofNat (max A B))), .val (.int (-1 : Int32)), .val (.int (Int32.ofNat (min A B))), .val (.int (Int32.ofNat (max A B))), .val (.int (Int32.ofNat (max A B))), .val (.long (((1 : Int64) <<< ((Int32.ofNat A) &&& 0x3f).toInt64) ||| ((1 : Int64) <<< ((Int32.ofNat B) &&& 0x3f).toInt64))), .second] [(.int (Int32.ofNat (max A B)))])
        refine Go.step (fun tt kk => XS.iload X105.here hx rfl (hb hby at_165) rfl kk) ?_
        show Go _ _ _ _ _ _ _ T105 (mkF m 167 #[.val (.int i0), .val (.int i1), .val (.int i2), .val (.int i3), .val (.int (Int32.ofNat W)), .val (.int (Int32.ofNat H)), .val (.int (Int32.ofNat (W + H))), .val (.int (Int32.ofNat A)), .val (.int (Int32.ofNat B)), .val (.ref b1), .val (.int (Int32.ofNat (min A B))), .val (.int (Int32.ofNat (max A B))), .val (.int (-1 : Int32)), .val (.int (Int32.ofNat (min A B))), .val (.int (Int32.ofNat (max A B))), .val (.int (Int32.ofNat (max A B))), .val (.long (((1 : Int64) <<< ((Int32.ofNat A) &&& 0x3f).toInt64) ||| ((1 : Int64) <<< ((Int32.ofNat B) &&& 0x3f).toInt64))), .second] [(.int (Int32.ofNat (max A B))), (.int (Int32.ofNat (max A B)))])
        refine Go.step (fun tt kk => XS.icmpNo X105.here hx rfl (hb hby at_167) rfl (teq ((own_eq _ _ (by omega) (by omega)).mpr (by omega))).2 kk) ?_
        show Go _ _ _ _ _ _ _ T105 (mkF m 170 #[.val (.int i0), .val (.int i1), .val (.int i2), .val (.int i3), .val (.int (Int32.ofNat W)), .val (.int (Int32.ofNat H)), .val (.int (Int32.ofNat (W + H))), .val (.int (Int32.ofNat A)), .val (.int (Int32.ofNat B)), .val (.ref b1), .val (.int (Int32.ofNat (min A B))), .val (.int (Int32.ofNat (max A B))), .val (.int (-1 : Int32)), .val (.int (Int32.ofNat (min A B))), .val (.int (Int32.ofNat (max A B))), .val (.int (Int32.ofNat (max A B))), .val (.long (((1 : Int64) <<< ((Int32.ofNat A) &&& 0x3f).toInt64) ||| ((1 : Int64) <<< ((Int32.ofNat B) &&& 0x3f).toInt64))), .second] [])
        refine Go.step (fun tt kk => XS.iload X105.here hx rfl (hb hby at_170) rfl kk) ?_
        show Go _ _ _ _ _ _ _ T105 (mkF m 172 #[.val (.int i0), .val (.int i1), .val (.int i2), .val (.int i3), .val (.int (Int32.ofNat W)), .val (.int (Int32.ofNat H)), .val (.int (Int32.ofNat (W + H))), .val (.int (Int32.ofNat A)), .val (.int (Int32.ofNat B)), .val (.ref b1), .val (.int (Int32.ofNat (min A B))), .val (.int (Int32.ofNat (max A B))), .val (.int (-1 : Int32)), .val (.int (Int32.ofNat (min A B))), .val (.int (Int32.ofNat (max A B))), .val (.int (Int32.ofNat (max A B))), .val (.long (((1 : Int64) <<< ((Int32.ofNat A) &&& 0x3f).toInt64) ||| ((1 : Int64) <<< ((Int32.ofNat B) &&& 0x3f).toInt64))), .second] [(.int (-1 : Int32))])
        refine Go.step (fun tt kk => XS.iconst X105.here hx rfl (hb hby at_172) kk) ?_
        show Go _ _ _ _ _ _ _ T105 (mkF m 173 #[.val (.int i0), .val (.int i1), .val (.int i2), .val (.int i3), .val (.int (Int32.ofNat W)), .val (.int (Int32.ofNat H)), .val (.int (Int32.ofNat (W + H))), .val (.int (Int32.ofNat A)), .val (.int (Int32.ofNat B)), .val (.ref b1), .val (.int (Int32.ofNat (min A B))), .val (.int (Int32.ofNat (max A B))), .val (.int (-1 : Int32)), .val (.int (Int32.ofNat (min A B))), .val (.int (Int32.ofNat (max A B))), .val (.int (Int32.ofNat (max A B))), .val (.long (((1 : Int64) <<< ((Int32.ofNat A) &&& 0x3f).toInt64) ||| ((1 : Int64) <<< ((Int32.ofNat B) &&& 0x3f).toInt64))), .second] [(.int (-1 : Int32)), (.int (-1 : Int32))])
        refine Go.step (fun tt kk => XS.icmpNo X105.here hx rfl (hb hby at_173) rfl (teq rfl).2 kk) ?_
        show Go _ _ _ _ _ _ _ T105 (mkF m 176 #[.val (.int i0), .val (.int i1), .val (.int i2), .val (.int i3), .val (.int (Int32.ofNat W)), .val (.int (Int32.ofNat H)), .val (.int (Int32.ofNat (W + H))), .val (.int (Int32.ofNat A)), .val (.int (Int32.ofNat B)), .val (.ref b1), .val (.int (Int32.ofNat (min A B))), .val (.int (Int32.ofNat (max A B))), .val (.int (-1 : Int32)), .val (.int (Int32.ofNat (min A B))), .val (.int (Int32.ofNat (max A B))), .val (.int (Int32.ofNat (max A B))), .val (.long (((1 : Int64) <<< ((Int32.ofNat A) &&& 0x3f).toInt64) ||| ((1 : Int64) <<< ((Int32.ofNat B) &&& 0x3f).toInt64))), .second] [])
        refine Go.step (fun tt kk => XS.aload X105.here hx rfl (hb hby at_176) rfl rfl kk) ?_
        show Go _ _ _ _ _ _ _ T105 (mkF m 178 #[.val (.int i0), .val (.int i1), .val (.int i2), .val (.int i3), .val (.int (Int32.ofNat W)), .val (.int (Int32.ofNat H)), .val (.int (Int32.ofNat (W + H))), .val (.int (Int32.ofNat A)), .val (.int (Int32.ofNat B)), .val (.ref b1), .val (.int (Int32.ofNat (min A B))), .val (.int (Int32.ofNat (max A B))), .val (.int (-1 : Int32)), .val (.int (Int32.ofNat (min A B))), .val (.int (Int32.ofNat (max A B))), .val (.int (Int32.ofNat (max A B))), .val (.long (((1 : Int64) <<< ((Int32.ofNat A) &&& 0x3f).toInt64) ||| ((1 : Int64) <<< ((Int32.ofNat B) &&& 0x3f).toInt64))), .second] [(.ref b1)])
        obtain ⟨v106, T106, L106, X106, q106, st106⟩ := c_virtUp X105 hx hZ hown (y' := (⟨"com/example/gridwright/gridwright/engine/SmallDraft", "taken", "()J"⟩ : MethodName)) (y := (⟨"com/example/gridwright/gridwright/engine/Draft", "taken", "()J"⟩ : MethodName)) (C := "com/example/gridwright/gridwright/engine/SmallDraft") (owner := "com/example/gridwright/gridwright/engine/Draft") (hw _ (List.mem_of_getElem? (i := 121) rfl)) (hw _ (List.mem_of_getElem? (i := 122) rfl)) (hw _ (List.mem_of_getElem? (i := 123) rfl)) (hw _ (List.mem_of_getElem? (i := 125) rfl)) (hw _ (List.mem_of_getElem? (i := 124) rfl)) (hw _ (List.mem_of_getElem? (i := 10) rfl)) (hw _ (List.mem_of_getElem? (i := 126) rfl)) (by decide) (a := b1) (argsL := []) (rest := []) (rmTk l Z a0 hw [] b1 (((0 : Int64) ||| (sh (Int32.ofNat (min A B)))) ||| (sh (Int32.ofNat (max A B)))) h103 n0 Z103 F103q2) e105 E103q pd_7 rfl (by rw [hml]; rfl) (W := 0) (by show 2 * 0 + _ ≤ _; exact Nat.le_of_eq rfl) (by decide) (by decide) (by decide) (by decide) (hb hby at_178) (Ls := #[.val (.int i0), .val (.int i1), .val (.int i2), .val (.int i3), .val (.int (Int32.ofNat W)), .val (.int (Int32.ofNat H)), .val (.int (Int32.ofNat (W + H))), .val (.int (Int32.ofNat A)), .val (.int (Int32.ofNat B)), .val (.ref b1), .val (.int (Int32.ofNat (min A B))), .val (.int (Int32.ofNat (max A B))), .val (.int (-1 : Int32)), .val (.int (Int32.ofNat (min A B))), .val (.int (Int32.ofNat (max A B))), .val (.int (Int32.ofNat (max A B))), .val (.long (((1 : Int64) <<< ((Int32.ofNat A) &&& 0x3f).toInt64) ||| ((1 : Int64) <<< ((Int32.ofNat B) &&& 0x3f).toInt64))), .second])
        obtain ⟨rfl, rfl, e106⟩ := q106
        have N106 := Fr.app N105 (Fr.nil n0)
        refine Go.step (st106) ?_
        show Go _ _ _ _ _ _ _ T106 (mkF m 181 #[.val (.int i0), .val (.int i1), .val (.int i2), .val (.int i3), .val (.int (Int32.ofNat W)), .val (.int (Int32.ofNat H)), .val (.int (Int32.ofNat (W + H))), .val (.int (Int32.ofNat A)), .val (.int (Int32.ofNat B)), .val (.ref b1), .val (.int (Int32.ofNat (min A B))), .val (.int (Int32.ofNat (max A B))), .val (.int (-1 : Int32)), .val (.int (Int32.ofNat (min A B))), .val (.int (Int32.ofNat (max A B))), .val (.int (Int32.ofNat (max A B))), .val (.long (((1 : Int64) <<< ((Int32.ofNat A) &&& 0x3f).toInt64) ||| ((1 : Int64) <<< ((Int32.ofNat B) &&& 0x3f).toInt64))), .second] [(.long (((0 : Int64) ||| (sh (Int32.ofNat (min A B)))) ||| (sh (Int32.ofNat (max A B)))))])
        refine Go.step (fun tt kk => XS.lload X106.here hx rfl (hb hby at_181) rfl kk) ?_
        show Go _ _ _ _ _ _ _ T106 (mkF m 183 #[.val (.int i0), .val (.int i1), .val (.int i2), .val (.int i3), .val (.int (Int32.ofNat W)), .val (.int (Int32.ofNat H)), .val (.int (Int32.ofNat (W + H))), .val (.int (Int32.ofNat A)), .val (.int (Int32.ofNat B)), .val (.ref b1), .val (.int (Int32.ofNat (min A B))), .val (.int (Int32.ofNat (max A B))), .val (.int (-1 : Int32)), .val (.int (Int32.ofNat (min A B))), .val (.int (Int32.ofNat (max A B))), .val (.int (Int32.ofNat (max A B))), .val (.long (((1 : Int64) <<< ((Int32.ofNat A) &&& 0x3f).toInt64) ||| ((1 : Int64) <<< ((Int32.ofNat B) &&& 0x3f).toInt64))), .second] [(.long (((1 : Int64) <<< ((Int32.ofNat A) &&& 0x3f).toInt64) ||| ((1 : Int64) <<< ((Int32.ofNat B) &&& 0x3f).toInt64))), (.long (((0 : Int64) ||| (sh (Int32.ofNat (min A B)))) ||| (sh (Int32.ofNat (max A B)))))])
        refine Go.step (fun tt kk => XS.lcmp X106.here hx rfl (hb hby at_183) rfl kk) ?_
        show Go _ _ _ _ _ _ _ T106 (mkF m 184 #[.val (.int i0), .val (.int i1), .val (.int i2), .val (.int i3), .val (.int (Int32.ofNat W)), .val (.int (Int32.ofNat H)), .val (.int (Int32.ofNat (W + H))), .val (.int (Int32.ofNat A)), .val (.int (Int32.ofNat B)), .val (.ref b1), .val (.int (Int32.ofNat (min A B))), .val (.int (Int32.ofNat (max A B))), .val (.int (-1 : Int32)), .val (.int (Int32.ofNat (min A B))), .val (.int (Int32.ofNat (max A B))), .val (.int (Int32.ofNat (max A B))), .val (.long (((1 : Int64) <<< ((Int32.ofNat A) &&& 0x3f).toInt64) ||| ((1 : Int64) <<< ((Int32.ofNat B) &&& 0x3f).toInt64))), .second] [(.int (lcmpW (((0 : Int64) ||| (sh (Int32.ofNat (min A B)))) ||| (sh (Int32.ofNat (max A B)))) (((1 : Int64) <<< ((Int32.ofNat A) &&& 0x3f).toInt64) ||| ((1 : Int64) <<< ((Int32.ofNat B) &&& 0x3f).toInt64))))])
        refine Go.step (fun tt kk => XS.ifNo X106.here hx rfl (hb hby at_184) rfl ((if0 _ _).trans (teq ((lw_eq _ _).mpr (by
              rw [own_or0]
              rcases Nat.lt_or_ge A B with q | q
              · rw [Nat.min_eq_left (by omega), Nat.max_eq_right (by omega)]
              · rw [Nat.min_eq_right (by omega), Nat.max_eq_left (by omega), Int64.or_comm]))).2) kk) ?_
        show Go _ _ _ _ _ _ _ T106 (mkF m 187 #[.val (.int i0), .val (.int i1), .val (.int i2), .val (.int i3), .val (.int (Int32.ofNat W)), .val (.int (Int32.ofNat H)), .val (.int (Int32.ofNat (W + H))), .val (.int (Int32.ofNat A)), .val (.int (Int32.ofNat B)), .val (.ref b1), .val (.int (Int32.ofNat (min A B))), .val (.int (Int32.ofNat (max A B))), .val (.int (-1 : Int32)), .val (.int (Int32.ofNat (min A B))), .val (.int (Int32.ofNat (max A B))), .val (.int (Int32.ofNat (max A B))), .val (.long (((1 : Int64) <<< ((Int32.ofNat A) &&& 0x3f).toInt64) ||| ((1 : Int64) <<< ((Int32.ofNat B) &&& 0x3f).toInt64))), .second] [])
        refine Go.step (fun tt kk => XS.iconst X106.here hx rfl (hb hby at_187) kk) ?_
        show Go _ _ _ _ _ _ _ T106 (mkF m 188 #[.val (.int i0), .val (.int i1), .val (.int i2), .val (.int i3), .val (.int (Int32.ofNat W)), .val (.int (Int32.ofNat H)), .val (.int (Int32.ofNat (W + H))), .val (.int (Int32.ofNat A)), .val (.int (Int32.ofNat B)), .val (.ref b1), .val (.int (Int32.ofNat (min A B))), .val (.int (Int32.ofNat (max A B))), .val (.int (-1 : Int32)), .val (.int (Int32.ofNat (min A B))), .val (.int (Int32.ofNat (max A B))), .val (.int (Int32.ofNat (max A B))), .val (.long (((1 : Int64) <<< ((Int32.ofNat A) &&& 0x3f).toInt64) ||| ((1 : Int64) <<< ((Int32.ofNat B) &&& 0x3f).toInt64))), .second] [(.int (1 : Int32))])
        refine Go.step (fun tt kk => XS.goto X106.here hx rfl (pc0 := 188) (pc' := 192) rfl (hb hby at_188) (by decide) (by decide) kk) ?_
        show Go _ _ _ _ _ _ _ T106 (mkF m 192 #[.val (.int i0), .val (.int i1), .val (.int i2), .val (.int i3), .val (.int (Int32.ofNat W)), .val (.int (Int32.ofNat H)), .val (.int (Int32.ofNat (W + H))), .val (.int (Int32.ofNat A)), .val (.int (Int32.ofNat B)), .val (.ref b1), .val (.int (Int32.ofNat (min A B))), .val (.int (Int32.ofNat (max A B))), .val (.int (-1 : Int32)), .val (.int (Int32.ofNat (min A B))), .val (.int (Int32.ofNat (max A B))), .val (.int (Int32.ofNat (max A B))), .val (.long (((1 : Int64) <<< ((Int32.ofNat A) &&& 0x3f).toInt64) ||| ((1 : Int64) <<< ((Int32.ofNat B) &&& 0x3f).toInt64))), .second] [(.int (1 : Int32))])
        refine go_retN X106 hx (t := .boolean) hret (by simp) hlk (hb hby at_192) (w := (1 : Int32)) rfl ?_ (by decide) (by decide)
        try rw [e106]
        exact ⟨rfl, N106⟩
set_option maxRecDepth 65536 in
set_option maxHeartbeats 40000000 in
theorem comes_1 {Post : Tables → Env → Array Value → State → Outcome → State → Prop} (hpost : ∀ tb e args s v u, (limb_1_1.after args s (.returned v) u = true ∧ limb_1_2.after args s (.returned v) u = true ∧ True) → FrameEnd s (.returned v) u (Jvm.fieldLocs frame_1_writes args s ++ Jvm.arrayLocs frame_1_arrays args s ++ Jvm.staticLocs frame_1_statics s) 24 9344 → Post tb e args s (.returned v) u) :
    ArmFor flags0 classFile x code maxLocals ret World_1 tables_1 room_1 Calls_1 rest_1 Pre_1 Post := by
  intro l hfl _ _ p e ha hc hk s m args below hf hA hF happ hP
  obtain ⟨hcalls, hrest, hpre⟩ := hP
  obtain ⟨-, -, -, hnamed, -, -, -, hat⟩ := (Spec.applies_iff hf).mp happ
  obtain ⟨hg, hn⟩ := and_e (Cond.before_iff.mp (show (Jvm.Cond.and given_1 narrow_1).before args s = true from hpre))
  obtain ⟨hcnt, hg1⟩ := and_e hg
  obtain ⟨ha0, hg2⟩ := and_e hg1
  obtain ⟨ha1, hg3⟩ := and_e hg2
  obtain ⟨ha2, hg4⟩ := and_e hg3
  obtain ⟨w0, w1, w2, w3, rfl⟩ : ∃ w0 w1 w2 w3 : Value, args = #[w0, w1, w2, w3] := by
    have hs : args.size = 4 := by simpa [Cond.value, given_1] using hcnt
    obtain ⟨L⟩ := args
    match L, hs with
    | [w0, w1, w2, w3], _ => exact ⟨w0, w1, w2, w3, rfl⟩
  have hw := fun d (hd : d ∈ tables_1) => atoms_spec (ws := Jvm.Cond.code x code maxLocals ret :: tables_1) hat d (List.mem_cons_of_mem _ hd)
  have hfit : Fit s := fun {y c} hc i hi => by
    obtain ⟨ha, rfl⟩ := Array.getElem?_eq_some_iff.mp hc
    have q := List.all_eq_true.mp ((Array.all_eq_true_iff_forall_mem.mp hF) _ (Array.getElem_mem ha)) i (List.mem_range.mpr hi)
    simpa [Array.getElem?_eq_getElem hi] using q
  obtain ⟨i0, ei0⟩ := is_v ha0
  obtain rfl : w0 = (.int i0) := Option.some.inj ei0
  obtain ⟨i1, ei1⟩ := is_v ha1
  obtain rfl : w1 = (.int i1) := Option.some.inj ei1
  obtain ⟨i2, ei2⟩ := is_v ha2
  obtain rfl : w2 = (.int i2) := Option.some.inj ei2
  obtain ⟨i3, ei3⟩ := is_v hg4
  obtain rfl : w3 = (.int i3) := Option.some.inj ei3
  obtain ⟨n, o, h1, h2, h3, _, L, rfl, ⟨rfl, N⟩, hq⟩ := rm0 l s _ hw tables_1 i0 i1 i2 i3 s.heap s.heap.size (Nat.le_refl _)  p e ha hc hk s m _ below hf ((Spec.applies_iff_loose hf).mp happ).1 ⟨rfl, State.Warmed39.refl s, rfl⟩ trivial
  refine ⟨n, _, h1, h2, h3, hpost _ _ _ _ _ _ ⟨Cond.after_iff.mpr rfl, Cond.after_iff.mpr (eq_i res_at (Term.int_eval (1)) rfl), trivial⟩ ⟨hq.1, hq.2.1, (hq.2.2.sift fun y hy => Or.inr (N y hy)).mono (by decide) (by decide)⟩⟩
theorem main_1_1 : Claimed_1_1 := comes_1 fun _ _ _ _ _ _ h hF => ⟨h.1, hF⟩
theorem main_1_2 : Claimed_1_2 := comes_1 fun _ _ _ _ _ _ h hF => ⟨h.2.1, hF⟩
end Jvm.Pilot.@@N@@
namespace Jvm.Pilot.@@N@@
open Jvm Jvm.ClassFile Sem Op Lib Jvm.Free Jvm.Stand Jvm.Pilot.@@N@@.Jvm.D
/-! MADE BY PROGRAM (witnessworld.py) out of the Statement's table words and the real class files: 20 classes; the members and pool entries that the words name. The judged class is class 1, her method 1. -/
namespace start1
open Jvm.ClassFile
def u (s : String) : CpInfo := .utf8 (stringToUtf16 s)
/-- a pool by its gaps: so many unusable entries, then the entry; so many at the end -/
def gap : Nat → List CpInfo → List CpInfo
  | 0, r => r
  | n + 1, r => .unusable :: gap n r
def poolList (es : List (Nat × CpInfo)) (last : Nat) : List CpInfo := es.foldr (fun e r => gap e.1 (e.2 :: r)) (gap last [])
def pool (es : List (Nat × CpInfo)) (last : Nat) : Array CpInfo := ⟨poolList es last⟩
def fileOf (pool : Array CpInfo) (this : Nat) (attrs : Array Attribute := #[]) (ms : Array MethodInfo := #[]) (fl : Nat := 33) (sup : Nat := 0) (ifs : Array Nat := #[]) (fds : Array FieldInfo := #[]) : ClassFile where
  minorVersion := 0
  majorVersion := 65
  constantPool := pool
  accessFlags := fl
  thisClass := this
  superClass := sup
  interfaces := ifs
  fields := fds
  methods := ms
  attributes := attrs
def plain (name : String) (sup : Option ClassId) : Class where
  name := name
  kind := .ordinary
  loader := none
  accessFlags := 33
  super := sup
  interfaces := #[]
  cf := none
  fields := #[]
  methods := #[]
  instanceTypes := #[]
  staticTypes := #[]
  resolved := #[]
  callSites := []
  init := .initialized
  statics := none
  mirror := none

def pool0 : Array CpInfo := pool [(5, u "<init>"), (0, u "()V"), (1, .class_ 10), (1, u "java/lang/Object")] 113

def k0c0 : Code := { maxStack := 0, maxLocals := 1, code := object_method_1_code, exceptionTable := #[], attributes := #[] }
def k0m0 : Method := { name := "<init>", desc := "()V", sig := { parameters := [], returnType := none }, accessFlags := 1, code := some k0c0 }
/-- java/lang/Object -/
def k0 : Class := { plain "java/lang/Object" none with
  accessFlags := 33
  interfaces := #[]
  cf := some (fileOf pool0 8 #[] #[{ accessFlags := 1, nameIndex := 5, descriptorIndex := 6, attributes := #[] }] 33 0 #[] #[])
  fields := #[]
  methods := #[k0m0]
  instanceTypes := #[]
  staticTypes := #[]
  resolved := Array.replicate 124 none
  statics := none }

def pool1 : Array CpInfo := pool [(2, .class_ 4), (1, u "java/lang/Object"), (0, u "<init>"), (0, u "()V"), (0, .integer 2147483647), (0, .class_ 9), (0, u "com/example/gridwright/gridwright/engine/SmallDraft"), (0, .methodref 8 11), (0, .nameAndType 5 12), (0, u "(II)V"), (0, .class_ 14), (0, u "com/example/gridwright/gridwright/engine/Grid"), (0, .methodref 13 11), (0, .methodref 8 17), (0, .nameAndType 18 19), (0, u "start"), (0, u "(Lcom/example/gridwright/gridwright/engine/Grid;)V"), (0, .methodref 8 21), (0, .nameAndType 22 23), (0, u "await"), (0, u "(I)V"), (0, .methodref 8 25), (0, .nameAndType 26 27), (0, u "next"), (0, u "()I"), (0, .methodref 29 30), (0, .class_ 31), (0, .nameAndType 32 33), (0, u "java/lang/Math"), (0, u "min"), (0, u "(II)I"), (0, .methodref 29 35), (0, .nameAndType 36 33), (0, u "max"), (0, .methodref 8 38), (0, .nameAndType 39 40), (0, u "taken"), (0, u "()J"), (0, .class_ 42), (0, u "com/example/gridwright/gridwright/engine/SmallDraftAwaitPinLaw"), (2, u "law"), (0, u "(IIII)Z")] 3

def k1m0 : Method := { name := "<init>", desc := "()V", sig := { parameters := [], returnType := none }, accessFlags := 1, code := none }
def k1c1 : Code := { maxStack := 5, maxLocals := 18, code := code, exceptionTable := #[], attributes := #[] }
def k1m1 : Method := { name := "law", desc := "(IIII)Z", sig := { parameters := [.int, .int, .int, .int], returnType := some .boolean }, accessFlags := 9, code := some k1c1 }
/-- com/example/gridwright/gridwright/engine/SmallDraftAwaitPinLaw -/
def k1 : Class := { plain "com/example/gridwright/gridwright/engine/SmallDraftAwaitPinLaw" (some 0) with
  accessFlags := 49
  interfaces := #[]
  cf := some (fileOf pool1 41 #[] #[{ accessFlags := 1, nameIndex := 5, descriptorIndex := 6, attributes := #[] }, { accessFlags := 9, nameIndex := 45, descriptorIndex := 46, attributes := #[] }] 49 2 #[] #[])
  fields := #[]
  methods := #[k1m0, k1m1]
  instanceTypes := #[]
  staticTypes := #[]
  resolved := Array.replicate 50 none
  statics := none }

def pool2 : Array CpInfo := pool [(1, .methodref 2 3), (0, .class_ 4), (0, .nameAndType 5 6), (0, u "java/lang/Object"), (0, u "<init>"), (0, u "()V"), (0, .fieldref 8 9), (0, .class_ 10), (0, .nameAndType 11 12), (0, u "com/example/gridwright/gridwright/engine/Draft"), (0, u "width"), (0, u "I"), (0, .fieldref 8 14), (0, .nameAndType 15 12), (0, u "height"), (4, u "(II)V"), (3, .methodref 25 26), (0, .class_ 27), (0, .nameAndType 11 28), (0, u "com/example/gridwright/gridwright/engine/Grid"), (0, u "()I"), (0, .methodref 25 30), (0, .nameAndType 15 28), (7, .fieldref 8 39), (0, .nameAndType 40 41), (0, u "taken"), (0, u "J"), (0, .fieldref 8 43), (0, .nameAndType 44 12), (0, u "decided"), (0, .methodref 8 46), (0, .nameAndType 47 48), (0, u "startOver"), (0, u "(Lcom/example/gridwright/gridwright/engine/Grid;)V"), (9, u "start"), (8, u "()J")] 6

def k2c0 : Code := { maxStack := 2, maxLocals := 3, code := prog_49_method_1_code, exceptionTable := #[], attributes := #[] }
def k2m0 : Method := { name := "<init>", desc := "(II)V", sig := { parameters := [.int, .int], returnType := none }, accessFlags := 0, code := some k2c0 }
def k2c1 : Code := { maxStack := 3, maxLocals := 2, code := prog_49_method_3_code, exceptionTable := #[], attributes := #[] }
def k2m1 : Method := { name := "start", desc := "(Lcom/example/gridwright/gridwright/engine/Grid;)V", sig := { parameters := [(.object "com/example/gridwright/gridwright/engine/Grid")], returnType := none }, accessFlags := 16, code := some k2c1 }
def k2m2 : Method := { name := "startOver", desc := "(Lcom/example/gridwright/gridwright/engine/Grid;)V", sig := { parameters := [(.object "com/example/gridwright/gridwright/engine/Grid")], returnType := none }, accessFlags := 1024, code := none }
def k2c3 : Code := { maxStack := 2, maxLocals := 1, code := prog_49_method_10_code, exceptionTable := #[], attributes := #[] }
def k2m3 : Method := { name := "taken", desc := "()J", sig := { parameters := [], returnType := some .long }, accessFlags := 16, code := some k2c3 }
/-- com/example/gridwright/gridwright/engine/Draft -/
def k2 : Class := { plain "com/example/gridwright/gridwright/engine/Draft" (some 0) with
  accessFlags := 1056
  interfaces := #[]
  cf := some (fileOf pool2 8 #[] #[{ accessFlags := 0, nameIndex := 5, descriptorIndex := 20, attributes := #[] }, { accessFlags := 16, nameIndex := 58, descriptorIndex := 48, attributes := #[] }, { accessFlags := 1024, nameIndex := 47, descriptorIndex := 48, attributes := #[] }, { accessFlags := 16, nameIndex := 40, descriptorIndex := 67, attributes := #[] }] 1056 2 #[] #[{ accessFlags := 20, nameIndex := 11, descriptorIndex := 12, attributes := #[] }, { accessFlags := 20, nameIndex := 15, descriptorIndex := 12, attributes := #[] }, { accessFlags := 4, nameIndex := 40, descriptorIndex := 41, attributes := #[] }, { accessFlags := 4, nameIndex := 44, descriptorIndex := 12, attributes := #[] }])
  fields := #[{ name := "width", type := .int, accessFlags := 20, slot := 0, constantValue := 0 }, { name := "height", type := .int, accessFlags := 20, slot := 1, constantValue := 0 }, { name := "taken", type := .long, accessFlags := 4, slot := 2, constantValue := 0 }, { name := "decided", type := .int, accessFlags := 4, slot := 3, constantValue := 0 }]
  methods := #[k2m0, k2m1, k2m2, k2m3]
  instanceTypes := #[.int, .int, .long, .int]
  staticTypes := #[]
  resolved := Array.replicate 74 none
  statics := none }

def pool3 : Array CpInfo := pool [(1, .methodref 2 3), (0, .class_ 4), (0, .nameAndType 5 6), (0, u "com/example/gridwright/gridwright/engine/Draft"), (0, u "<init>"), (0, u "(II)V"), (0, .class_ 8), (0, u "com/example/gridwright/gridwright/engine/SmallDraft"), (9, .fieldref 7 19), (0, .nameAndType 20 21), (0, u "filled"), (0, u "[J"), (0, .fieldref 7 23), (0, .nameAndType 24 21), (0, u "empty"), (0, .fieldref 7 26), (0, .nameAndType 27 28), (0, u "grid"), (0, u "Lcom/example/gridwright/gridwright/engine/Grid;"), (0, .fieldref 7 30), (0, .nameAndType 31 32), (0, u "changedRows"), (0, u "J"), (0, .methodref 34 35), (0, .class_ 36), (0, .nameAndType 37 38), (0, u "java/lang/Long"), (0, u "numberOfTrailingZeros"), (0, u "(J)I"), (3, u "(I)V"), (0, .fieldref 7 44), (0, .nameAndType 45 32), (0, u "changedColumns"), (0, .fieldref 7 47), (0, .nameAndType 48 49), (0, u "height"), (0, u "I"), (0, .fieldref 7 51), (0, .nameAndType 52 32), (0, u "waitingRows"), (0, .fieldref 7 54), (0, .nameAndType 55 32), (0, u "waitingColumns"), (0, .fieldref 7 57), (0, .nameAndType 58 59), (0, u "rows"), (0, u "Z"), (21, .fieldref 7 82), (0, .nameAndType 83 32), (0, u "taken"), (16, u "MAX_SIDE"), (5, u "startOver"), (0, u "(Lcom/example/gridwright/gridwright/engine/Grid;)V"), (2, u "await"), (0, u "next"), (0, u "()I")] 19

def k3c0 : Code := { maxStack := 4, maxLocals := 3, code := prog_84_method_1_code, exceptionTable := #[], attributes := #[] }
def k3m0 : Method := { name := "<init>", desc := "(II)V", sig := { parameters := [.int, .int], returnType := none }, accessFlags := 0, code := some k3c0 }
def k3c1 : Code := { maxStack := 6, maxLocals := 4, code := prog_84_method_2_code, exceptionTable := #[], attributes := #[] }
def k3m1 : Method := { name := "startOver", desc := "(Lcom/example/gridwright/gridwright/engine/Grid;)V", sig := { parameters := [(.object "com/example/gridwright/gridwright/engine/Grid")], returnType := none }, accessFlags := 0, code := some k3c1 }
def k3c2 : Code := { maxStack := 7, maxLocals := 2, code := prog_84_method_6_code, exceptionTable := #[], attributes := #[] }
def k3m2 : Method := { name := "await", desc := "(I)V", sig := { parameters := [.int], returnType := none }, accessFlags := 0, code := some k3c2 }
def k3c3 : Code := { maxStack := 7, maxLocals := 2, code := prog_84_method_7_code, exceptionTable := #[], attributes := #[] }
def k3m3 : Method := { name := "next", desc := "()I", sig := { parameters := [], returnType := some .int }, accessFlags := 0, code := some k3c3 }
/-- com/example/gridwright/gridwright/engine/SmallDraft -/
def k3 : Class := { plain "com/example/gridwright/gridwright/engine/SmallDraft" (some 2) with
  accessFlags := 48
  interfaces := #[]
  cf := some (fileOf pool3 7 #[] #[{ accessFlags := 0, nameIndex := 5, descriptorIndex := 6, attributes := #[] }, { accessFlags := 0, nameIndex := 106, descriptorIndex := 107, attributes := #[] }, { accessFlags := 0, nameIndex := 110, descriptorIndex := 42, attributes := #[] }, { accessFlags := 0, nameIndex := 111, descriptorIndex := 112, attributes := #[] }] 48 2 #[] #[{ accessFlags := 24, nameIndex := 100, descriptorIndex := 49, attributes := #[] }, { accessFlags := 2, nameIndex := 27, descriptorIndex := 28, attributes := #[] }, { accessFlags := 18, nameIndex := 20, descriptorIndex := 21, attributes := #[] }, { accessFlags := 18, nameIndex := 24, descriptorIndex := 21, attributes := #[] }, { accessFlags := 2, nameIndex := 31, descriptorIndex := 32, attributes := #[] }, { accessFlags := 2, nameIndex := 45, descriptorIndex := 32, attributes := #[] }, { accessFlags := 2, nameIndex := 52, descriptorIndex := 32, attributes := #[] }, { accessFlags := 2, nameIndex := 55, descriptorIndex := 32, attributes := #[] }, { accessFlags := 2, nameIndex := 58, descriptorIndex := 59, attributes := #[] }])
  fields := #[{ name := "MAX_SIDE", type := .int, accessFlags := 24, slot := 0, constantValue := 0 }, { name := "grid", type := (.object "com/example/gridwright/gridwright/engine/Grid"), accessFlags := 2, slot := 4, constantValue := 0 }, { name := "filled", type := (.array .long), accessFlags := 18, slot := 5, constantValue := 0 }, { name := "empty", type := (.array .long), accessFlags := 18, slot := 6, constantValue := 0 }, { name := "changedRows", type := .long, accessFlags := 2, slot := 7, constantValue := 0 }, { name := "changedColumns", type := .long, accessFlags := 2, slot := 8, constantValue := 0 }, { name := "waitingRows", type := .long, accessFlags := 2, slot := 9, constantValue := 0 }, { name := "waitingColumns", type := .long, accessFlags := 2, slot := 10, constantValue := 0 }, { name := "rows", type := .boolean, accessFlags := 2, slot := 11, constantValue := 0 }]
  methods := #[k3m0, k3m1, k3m2, k3m3]
  instanceTypes := #[.int, .int, .long, .int, (.object "com/example/gridwright/gridwright/engine/Grid"), (.array .long), (.array .long), .long, .long, .long, .long, .boolean]
  staticTypes := #[.int]
  resolved := Array.replicate 132 none
  statics := none }

def pool4 : Array CpInfo := pool [(1, .methodref 2 3), (0, .class_ 4), (0, .nameAndType 5 6), (0, u "java/lang/Object"), (0, u "<init>"), (0, u "()V"), (9, .fieldref 17 18), (0, .class_ 19), (0, .nameAndType 20 21), (0, u "com/example/gridwright/gridwright/engine/Grid"), (0, u "width"), (0, u "I"), (0, .fieldref 17 23), (0, .nameAndType 24 21), (0, u "height"), (0, .methodref 26 27), (0, .class_ 28), (0, .nameAndType 29 30), (0, u "java/lang/Math"), (0, u "multiplyExact"), (0, u "(II)I"), (0, .fieldref 17 32), (0, .nameAndType 33 34), (0, u "cells"), (0, u "[B"), (0, .long 1099511627776), (1, .fieldref 17 38), (0, .nameAndType 39 40), (0, u "rowFactor"), (0, u "J"), (0, .methodref 26 42), (0, .nameAndType 43 30), (0, u "max"), (0, .methodref 17 45), (0, .nameAndType 46 47), (0, u "wordsFor"), (0, u "(I)I"), (0, .fieldref 17 49), (0, .nameAndType 50 21), (0, u "stride"), (0, .fieldref 17 52), (0, .nameAndType 53 54), (0, u "filled"), (0, u "[J"), (0, .fieldref 17 56), (0, .nameAndType 57 54), (0, u "empty"), (25, u "()I"), (20, u "CELLS"), (0, u "[Lcom/example/gridwright/gridwright/engine/Cell;"), (25, u "ROW_SHIFT"), (2, u "(II)V")] 35

def k4c0 : Code := { maxStack := 5, maxLocals := 4, code := prog_58_method_1_code, exceptionTable := #[], attributes := #[] }
def k4m0 : Method := { name := "<init>", desc := "(II)V", sig := { parameters := [.int, .int], returnType := none }, accessFlags := 1, code := some k4c0 }
def k4c1 : Code := { maxStack := 1, maxLocals := 1, code := prog_58_method_2_code, exceptionTable := #[], attributes := #[] }
def k4m1 : Method := { name := "width", desc := "()I", sig := { parameters := [], returnType := some .int }, accessFlags := 1, code := some k4c1 }
def k4c2 : Code := { maxStack := 1, maxLocals := 1, code := prog_58_method_3_code, exceptionTable := #[], attributes := #[] }
def k4m2 : Method := { name := "height", desc := "()I", sig := { parameters := [], returnType := some .int }, accessFlags := 1, code := some k4c2 }
def k4c3 : Code := { maxStack := 2, maxLocals := 1, code := prog_58_method_13_code, exceptionTable := #[], attributes := #[] }
def k4m3 : Method := { name := "wordsFor", desc := "(I)I", sig := { parameters := [.int], returnType := some .int }, accessFlags := 8, code := some k4c3 }
/-- com/example/gridwright/gridwright/engine/Grid -/
def k4 : Class := { plain "com/example/gridwright/gridwright/engine/Grid" (some 0) with
  accessFlags := 49
  interfaces := #[]
  cf := some (fileOf pool4 17 #[] #[{ accessFlags := 1, nameIndex := 5, descriptorIndex := 134, attributes := #[] }, { accessFlags := 1, nameIndex := 20, descriptorIndex := 83, attributes := #[] }, { accessFlags := 1, nameIndex := 24, descriptorIndex := 83, attributes := #[] }, { accessFlags := 8, nameIndex := 46, descriptorIndex := 47, attributes := #[] }] 49 2 #[] #[{ accessFlags := 26, nameIndex := 104, descriptorIndex := 105, attributes := #[] }, { accessFlags := 18, nameIndex := 20, descriptorIndex := 21, attributes := #[] }, { accessFlags := 18, nameIndex := 24, descriptorIndex := 21, attributes := #[] }, { accessFlags := 18, nameIndex := 33, descriptorIndex := 34, attributes := #[] }, { accessFlags := 18, nameIndex := 39, descriptorIndex := 40, attributes := #[] }, { accessFlags := 26, nameIndex := 131, descriptorIndex := 21, attributes := #[] }, { accessFlags := 18, nameIndex := 50, descriptorIndex := 21, attributes := #[] }, { accessFlags := 18, nameIndex := 53, descriptorIndex := 54, attributes := #[] }, { accessFlags := 18, nameIndex := 57, descriptorIndex := 54, attributes := #[] }])
  fields := #[{ name := "CELLS", type := (.array (.object "com/example/gridwright/gridwright/engine/Cell")), accessFlags := 26, slot := 0, constantValue := 0 }, { name := "width", type := .int, accessFlags := 18, slot := 0, constantValue := 0 }, { name := "height", type := .int, accessFlags := 18, slot := 1, constantValue := 0 }, { name := "cells", type := (.array .byte), accessFlags := 18, slot := 2, constantValue := 0 }, { name := "rowFactor", type := .long, accessFlags := 18, slot := 3, constantValue := 0 }, { name := "ROW_SHIFT", type := .int, accessFlags := 26, slot := 1, constantValue := 0 }, { name := "stride", type := .int, accessFlags := 18, slot := 4, constantValue := 0 }, { name := "filled", type := (.array .long), accessFlags := 18, slot := 5, constantValue := 0 }, { name := "empty", type := (.array .long), accessFlags := 18, slot := 6, constantValue := 0 }]
  methods := #[k4m0, k4m1, k4m2, k4m3]
  instanceTypes := #[.int, .int, (.array .byte), .long, .int, (.array .long), (.array .long)]
  staticTypes := #[(.array (.object "com/example/gridwright/gridwright/engine/Cell")), .int]
  resolved := Array.replicate 170 none
  statics := none }

def pool5 : Array CpInfo := pool [(1, .class_ 2), (0, u "java/lang/Math"), (1, .class_ 6), (1, u "java/lang/Object"), (0, u "<init>"), (0, u "()V"), (89, .class_ 100), (1, u "java/lang/Math$RandomNumberGeneratorHolder"), (19, u "multiplyExact"), (51, u "negativeZeroFloatBits"), (0, u "J"), (2, u "negativeZeroDoubleBits"), (21, u "max"), (2, u "min"), (43, u "$assertionsDisabled"), (0, u "Z"), (88, u "(II)I"), (2, u "twoToTheDoubleScaleDown"), (0, u "D"), (4, u "twoToTheDoubleScaleUp"), (9, u "E"), (3, u "PI"), (2, u "TAU"), (2, u "DEGREES_TO_RADIANS"), (0, u "RADIANS_TO_DEGREES")] 94

def k5m0 : Method := { name := "<init>", desc := "()V", sig := { parameters := [], returnType := none }, accessFlags := 2, code := none }
def k5c1 : Code := { maxStack := 4, maxLocals := 4, code := jdk_29_method_28_code, exceptionTable := #[], attributes := #[] }
def k5m1 : Method := { name := "multiplyExact", desc := "(II)I", sig := { parameters := [.int, .int], returnType := some .int }, accessFlags := 9, code := some k5c1 }
def k5c2 : Code := { maxStack := 2, maxLocals := 2, code := jdk_29_method_65_code, exceptionTable := #[], attributes := #[] }
def k5m2 : Method := { name := "max", desc := "(II)I", sig := { parameters := [.int, .int], returnType := some .int }, accessFlags := 9, code := some k5c2 }
def k5c3 : Code := { maxStack := 2, maxLocals := 2, code := jdk_29_method_69_code, exceptionTable := #[], attributes := #[] }
def k5m3 : Method := { name := "min", desc := "(II)I", sig := { parameters := [.int, .int], returnType := some .int }, accessFlags := 9, code := some k5c3 }
/-- java/lang/Math -/
def k5 : Class := { plain "java/lang/Math" (some 0) with
  accessFlags := 49
  interfaces := #[]
  cf := some (fileOf pool5 1 #[.nestMembers #[98]] #[{ accessFlags := 2, nameIndex := 7, descriptorIndex := 8, attributes := #[] }, { accessFlags := 9, nameIndex := 120, descriptorIndex := 335, attributes := #[] }, { accessFlags := 9, nameIndex := 198, descriptorIndex := 335, attributes := #[] }, { accessFlags := 9, nameIndex := 201, descriptorIndex := 335, attributes := #[] }] 49 4 #[] #[{ accessFlags := 25, nameIndex := 354, descriptorIndex := 339, attributes := #[] }, { accessFlags := 25, nameIndex := 358, descriptorIndex := 339, attributes := #[] }, { accessFlags := 25, nameIndex := 361, descriptorIndex := 339, attributes := #[] }, { accessFlags := 26, nameIndex := 364, descriptorIndex := 339, attributes := #[] }, { accessFlags := 26, nameIndex := 365, descriptorIndex := 339, attributes := #[] }, { accessFlags := 26, nameIndex := 172, descriptorIndex := 173, attributes := #[] }, { accessFlags := 26, nameIndex := 176, descriptorIndex := 173, attributes := #[] }, { accessFlags := 8, nameIndex := 344, descriptorIndex := 339, attributes := #[] }, { accessFlags := 8, nameIndex := 338, descriptorIndex := 339, attributes := #[] }, { accessFlags := 4120, nameIndex := 245, descriptorIndex := 246, attributes := #[] }])
  fields := #[{ name := "E", type := .double, accessFlags := 25, slot := 0, constantValue := 0 }, { name := "PI", type := .double, accessFlags := 25, slot := 1, constantValue := 0 }, { name := "TAU", type := .double, accessFlags := 25, slot := 2, constantValue := 0 }, { name := "DEGREES_TO_RADIANS", type := .double, accessFlags := 26, slot := 3, constantValue := 0 }, { name := "RADIANS_TO_DEGREES", type := .double, accessFlags := 26, slot := 4, constantValue := 0 }, { name := "negativeZeroFloatBits", type := .long, accessFlags := 26, slot := 5, constantValue := 0 }, { name := "negativeZeroDoubleBits", type := .long, accessFlags := 26, slot := 6, constantValue := 0 }, { name := "twoToTheDoubleScaleUp", type := .double, accessFlags := 8, slot := 7, constantValue := 0 }, { name := "twoToTheDoubleScaleDown", type := .double, accessFlags := 8, slot := 8, constantValue := 0 }, { name := "$assertionsDisabled", type := .boolean, accessFlags := 4120, slot := 9, constantValue := 0 }]
  methods := #[k5m0, k5m1, k5m2, k5m3]
  instanceTypes := #[]
  staticTypes := #[.double, .double, .double, .double, .double, .long, .long, .double, .double, .boolean]
  resolved := Array.replicate 460 none
  statics := none }

def pool6 : Array CpInfo := pool [(1, .class_ 2), (0, u "java/io/Serializable"), (0, .class_ 4), (0, u "java/lang/Object")] 2

/-- java/io/Serializable -/
def k6 : Class := { plain "java/io/Serializable" (some 0) with
  accessFlags := 1537
  interfaces := #[]
  cf := some (fileOf pool6 1 #[] #[] 1537 3 #[] #[])
  fields := #[]
  methods := #[]
  instanceTypes := #[]
  staticTypes := #[]
  resolved := Array.replicate 7 none
  statics := none }

def pool7 : Array CpInfo := pool [(2, .class_ 4), (1, u "java/lang/Object"), (0, u "<init>"), (0, u "()V"), (1, .class_ 10), (1, u "java/lang/Number"), (2, .class_ 14), (0, u "java/io/Serializable"), (0, u "serialVersionUID"), (0, u "J")] 20

def k7m0 : Method := { name := "<init>", desc := "()V", sig := { parameters := [], returnType := none }, accessFlags := 1, code := none }
/-- java/lang/Number -/
def k7 : Class := { plain "java/lang/Number" (some 0) with
  accessFlags := 1057
  interfaces := #[6]
  cf := some (fileOf pool7 8 #[] #[{ accessFlags := 1, nameIndex := 5, descriptorIndex := 6, attributes := #[] }] 1057 2 #[13] #[{ accessFlags := 26, nameIndex := 15, descriptorIndex := 16, attributes := #[] }])
  fields := #[{ name := "serialVersionUID", type := .long, accessFlags := 26, slot := 0, constantValue := 0 }]
  methods := #[k7m0]
  instanceTypes := #[]
  staticTypes := #[.long]
  resolved := Array.replicate 37 none
  statics := none }

def pool8 : Array CpInfo := pool [(1, .class_ 2), (0, u "java/lang/Comparable"), (0, .class_ 4), (0, u "java/lang/Object")] 7

/-- java/lang/Comparable -/
def k8 : Class := { plain "java/lang/Comparable" (some 0) with
  accessFlags := 1537
  interfaces := #[]
  cf := some (fileOf pool8 1 #[] #[] 1537 3 #[] #[])
  fields := #[]
  methods := #[]
  instanceTypes := #[]
  staticTypes := #[]
  resolved := Array.replicate 12 none
  statics := none }

def pool9 : Array CpInfo := pool [(1, .class_ 2), (0, u "java/lang/constant/Constable"), (0, .class_ 4), (0, u "java/lang/Object")] 6

/-- java/lang/constant/Constable -/
def k9 : Class := { plain "java/lang/constant/Constable" (some 0) with
  accessFlags := 1537
  interfaces := #[]
  cf := some (fileOf pool9 1 #[] #[] 1537 3 #[] #[])
  fields := #[]
  methods := #[]
  instanceTypes := #[]
  staticTypes := #[]
  resolved := Array.replicate 11 none
  statics := none }

def pool10 : Array CpInfo := pool [(1, .class_ 2), (0, u "java/lang/constant/ConstantDesc"), (0, .class_ 4), (0, u "java/lang/Object")] 32

/-- java/lang/constant/ConstantDesc -/
def k10 : Class := { plain "java/lang/constant/ConstantDesc" (some 0) with
  accessFlags := 1537
  interfaces := #[]
  cf := some (fileOf pool10 1 #[] #[] 1537 3 #[] #[])
  fields := #[]
  methods := #[]
  instanceTypes := #[]
  staticTypes := #[]
  resolved := Array.replicate 37 none
  statics := none }

def pool11 : Array CpInfo := pool [(1, .class_ 2), (0, u "java/lang/Long"), (15, .class_ 20), (1, u "java/lang/Integer"), (80, u "(J)I"), (133, .class_ 237), (1, u "java/lang/Long$LongCache"), (33, .class_ 272), (0, u "java/lang/Number"), (2, u "value"), (0, u "J"), (33, u "(I)I"), (0, .methodref 18 312), (0, .nameAndType 313 310), (0, u "numberOfTrailingZeros"), (47, u "TYPE"), (0, u "Ljava/lang/Class;"), (0, .class_ 364), (0, u "java/lang/Comparable"), (0, .class_ 366), (0, u "java/lang/constant/Constable"), (0, .class_ 368), (0, u "java/lang/constant/ConstantDesc"), (0, u "MIN_VALUE"), (1, u "MAX_VALUE"), (4, u "SIZE"), (0, u "I"), (1, u "BYTES"), (1, u "serialVersionUID")] 142

def k11c0 : Code := { maxStack := 4, maxLocals := 3, code := jdk_35_method_49_code, exceptionTable := #[], attributes := #[] }
def k11m0 : Method := { name := "numberOfTrailingZeros", desc := "(J)I", sig := { parameters := [.long], returnType := some .int }, accessFlags := 9, code := some k11c0 }
/-- java/lang/Long -/
def k11 : Class := { plain "java/lang/Long" (some 7) with
  accessFlags := 49
  interfaces := #[8, 9, 10]
  cf := some (fileOf pool11 1 #[.nestMembers #[235]] #[{ accessFlags := 9, nameIndex := 313, descriptorIndex := 101, attributes := #[] }] 49 271 #[363, 365, 367] #[{ accessFlags := 25, nameIndex := 369, descriptorIndex := 276, attributes := #[] }, { accessFlags := 25, nameIndex := 371, descriptorIndex := 276, attributes := #[] }, { accessFlags := 25, nameIndex := 361, descriptorIndex := 362, attributes := #[] }, { accessFlags := 18, nameIndex := 275, descriptorIndex := 276, attributes := #[] }, { accessFlags := 25, nameIndex := 376, descriptorIndex := 377, attributes := #[] }, { accessFlags := 25, nameIndex := 379, descriptorIndex := 377, attributes := #[] }, { accessFlags := 26, nameIndex := 381, descriptorIndex := 276, attributes := #[] }])
  fields := #[{ name := "MIN_VALUE", type := .long, accessFlags := 25, slot := 0, constantValue := 0 }, { name := "MAX_VALUE", type := .long, accessFlags := 25, slot := 1, constantValue := 0 }, { name := "TYPE", type := (.object "java/lang/Class"), accessFlags := 25, slot := 2, constantValue := 0 }, { name := "value", type := .long, accessFlags := 18, slot := 0, constantValue := 0 }, { name := "SIZE", type := .int, accessFlags := 25, slot := 3, constantValue := 0 }, { name := "BYTES", type := .int, accessFlags := 25, slot := 4, constantValue := 0 }, { name := "serialVersionUID", type := .long, accessFlags := 26, slot := 5, constantValue := 0 }]
  methods := #[k11m0]
  instanceTypes := #[.long]
  staticTypes := #[.long, .long, (.object "java/lang/Class"), .int, .int, .long]
  resolved := Array.replicate 524 none
  statics := none }

def pool12 : Array CpInfo := pool [(1, .class_ 2), (0, u "java/lang/Integer"), (16, u "digits"), (0, u "[C"), (33, u "(I)I"), (30, u "DigitOnes"), (0, u "[B"), (2, u "DigitTens"), (99, .class_ 190), (0, u "java/lang/Integer$IntegerCache"), (3, u "I"), (8, .class_ 204), (0, u "java/lang/Number"), (2, u "value"), (56, .integer 65536), (37, u "TYPE"), (0, u "Ljava/lang/Class;"), (0, .class_ 305), (0, u "java/lang/Comparable"), (0, .class_ 307), (0, u "java/lang/constant/Constable"), (0, .class_ 309), (0, u "java/lang/constant/ConstantDesc"), (0, u "MIN_VALUE"), (1, u "MAX_VALUE"), (3, u "SIZE"), (1, u "BYTES"), (1, u "serialVersionUID"), (0, u "J"), (84, u "numberOfTrailingZeros")] 46

def k12c0 : Code := { maxStack := 3, maxLocals := 2, code := jdk_33_method_48_code, exceptionTable := #[], attributes := #[] }
def k12m0 : Method := { name := "numberOfTrailingZeros", desc := "(I)I", sig := { parameters := [.int], returnType := some .int }, accessFlags := 9, code := some k12c0 }
/-- java/lang/Integer -/
def k12 : Class := { plain "java/lang/Integer" (some 7) with
  accessFlags := 49
  interfaces := #[8, 9, 10]
  cf := some (fileOf pool12 1 #[.nestMembers #[189]] #[{ accessFlags := 9, nameIndex := 406, descriptorIndex := 54, attributes := #[] }] 49 203 #[304, 306, 308] #[{ accessFlags := 25, nameIndex := 310, descriptorIndex := 194, attributes := #[] }, { accessFlags := 25, nameIndex := 312, descriptorIndex := 194, attributes := #[] }, { accessFlags := 25, nameIndex := 302, descriptorIndex := 303, attributes := #[] }, { accessFlags := 24, nameIndex := 19, descriptorIndex := 20, attributes := #[] }, { accessFlags := 24, nameIndex := 89, descriptorIndex := 86, attributes := #[] }, { accessFlags := 24, nameIndex := 85, descriptorIndex := 86, attributes := #[] }, { accessFlags := 18, nameIndex := 207, descriptorIndex := 194, attributes := #[] }, { accessFlags := 25, nameIndex := 316, descriptorIndex := 194, attributes := #[] }, { accessFlags := 25, nameIndex := 318, descriptorIndex := 194, attributes := #[] }, { accessFlags := 26, nameIndex := 320, descriptorIndex := 321, attributes := #[] }])
  fields := #[{ name := "MIN_VALUE", type := .int, accessFlags := 25, slot := 0, constantValue := 0 }, { name := "MAX_VALUE", type := .int, accessFlags := 25, slot := 1, constantValue := 0 }, { name := "TYPE", type := (.object "java/lang/Class"), accessFlags := 25, slot := 2, constantValue := 0 }, { name := "digits", type := (.array .char), accessFlags := 24, slot := 3, constantValue := 0 }, { name := "DigitTens", type := (.array .byte), accessFlags := 24, slot := 4, constantValue := 0 }, { name := "DigitOnes", type := (.array .byte), accessFlags := 24, slot := 5, constantValue := 0 }, { name := "value", type := .int, accessFlags := 18, slot := 0, constantValue := 0 }, { name := "SIZE", type := .int, accessFlags := 25, slot := 6, constantValue := 0 }, { name := "BYTES", type := .int, accessFlags := 25, slot := 7, constantValue := 0 }, { name := "serialVersionUID", type := .long, accessFlags := 26, slot := 8, constantValue := 0 }]
  methods := #[k12m0]
  instanceTypes := #[.int]
  staticTypes := #[.int, .int, (.object "java/lang/Class"), (.array .char), (.array .byte), (.array .byte), .int, .int, .long]
  resolved := Array.replicate 453 none
  statics := none }

def pool13 : Array CpInfo := pool [(1, u "java/lang/Cloneable"), (0, .class_ 1), (0, u "java/lang/Object"), (0, .class_ 3)] 3

/-- java/lang/Cloneable -/
def k13 : Class := { plain "java/lang/Cloneable" (some 0) with
  accessFlags := 1537
  interfaces := #[]
  cf := some (fileOf pool13 2 #[] #[] 1537 4 #[] #[])
  fields := #[]
  methods := #[]
  instanceTypes := #[]
  staticTypes := #[]
  resolved := Array.replicate 8 none
  statics := none }

/-- the primitive byte -/
def k14 : Class := { plain "byte" none with kind := .primitive 'B', accessFlags := 0x411 }
/-- [B -/
def k15 : Class := { plain "[B" (some 0) with kind := .array 14 .byte, interfaces := #[13, 6], accessFlags := 1041 }

/-- the primitive int -/
def k16 : Class := { plain "int" none with kind := .primitive 'I', accessFlags := 0x411 }
/-- [I -/
def k17 : Class := { plain "[I" (some 0) with kind := .array 16 .int, interfaces := #[13, 6], accessFlags := 1041 }

/-- the primitive long -/
def k18 : Class := { plain "long" none with kind := .primitive 'J', accessFlags := 0x411 }
/-- [J -/
def k19 : Class := { plain "[J" (some 0) with kind := .array 18 .long, interfaces := #[13, 6], accessFlags := 1041 }

def heap : Heap := #[]
def classes : Array Class := #[k0, k1, k2, k3, k4, k5, k6, k7, k8, k9, k10, k11, k12, k13, k14, k15, k16, k17, k18, k19]
def interned : List (Array UInt16 × Addr) := []
def slotsUsed : Nat := 0
def theMethod : MethodId := ⟨1, 1⟩
def args0 : Array Value := #[.int 5, .int 5, .int 5, .int 5]
def aboutOver (below : List Frame) : State where
  vm := { classes := classes, interned := interned.toArray }
  heap := heap
  slotsUsed := slotsUsed
  threads := #[{ frames := .invoking theMethod args0 :: below }]
def below0 : List Frame := [.native { method := ⟨0, 0⟩, args := #[] }]
def about1 : State := aboutOver below0
def p0 : Program := .bare "" "" ""
def e0 : Env := launch0.env 0 0 0
theorem w_frames : about1.frames = Frame.invoking theMethod args0 :: below0 := rfl
set_option maxRecDepth 65536 in
theorem w_args : argsFit about1.vm theMethod args0 = true := by decide +kernel
set_option maxRecDepth 65536 in
theorem w_heap : heapFits about1 = true := by decide +kernel
set_option maxRecDepth 65536 in
theorem w_runnable : about1.curStatus? = some .runnable := by decide +kernel
set_option maxRecDepth 65536 in
theorem w_alone : about1.alone = true := by decide +kernel
set_option maxRecDepth 65536 in
theorem w_named : about1.methodNamed? x = some theMethod := by decide +kernel
set_option maxRecDepth 65536 in
theorem w_hears : about1.hears theMethod below0 = true := by decide +kernel
set_option maxRecDepth 65536 in
theorem w_ripe : about1.ripe theMethod args0 below0 = true := by decide +kernel
theorem w_running : about1.status = .running := rfl
set_option maxRecDepth 65536 in
theorem w_room : about1.hasRoom e0.platform room_1 = true :=
  launch0.hasRoom_least _ room_1 (by decide +kernel) (by decide +kernel) (by decide +kernel) (by decide +kernel) (by decide +kernel) (by decide +kernel)
theorem allAtoms_all (ts : List Jvm.Cond) (a : Array Jvm.Value) (st : Jvm.State) : (allAtoms ts).before a st = ts.all (fun c => c.before a st) := by
  induction ts with
  | nil => rfl
  | cons c t ih =>
    show (Jvm.Cond.and c (allAtoms t)).before a st = _
    rw [Jvm.Cond.before_and, ih, List.all_cons]
def words1 : List Jvm.Cond := Jvm.Cond.code x code maxLocals ret :: tables_1
/-- a 'code' word, met by the world's own term for the bytes: nothing is compared byte by byte -/
theorem code_word {y : MethodName} {bytes : ByteArray} {mx : Nat} {rt : Option FieldType} {a : Array Value} {s : State} {m : MethodId} {meth : Method} {c : Code} (h1 : s.methodNamed? y = some m) (h2 : s.vm.method? m = some meth) (h3 : meth.code = some c) (h4 : c.code = bytes)
    (h5 : (c.maxLocals == mx && c.exceptionTable.isEmpty && decide (c.maxStack ≤ mostOperands) && decide (meth.sig.returnType = rt) && !meth.locks && decide (parseMethodDescriptor y.desc = some meth.sig)) = true) : (Jvm.Cond.code y bytes mx rt).before a s = true := by
  simp only [Bool.and_eq_true, beq_iff_eq, Bool.not_eq_true', decide_eq_true_eq] at h5
  obtain ⟨⟨⟨⟨⟨g1, g2⟩, g3⟩, g4⟩, g5⟩, g6⟩ := h5
  simp [Cond.before, Cond.holds, Cond.value, h1, h2, h3, h4, g1, g2, g3, g4, g5, g6]
def isCode : Jvm.Cond → Bool
  | .code _ _ _ _ => true
  | _ => false
theorem all_split {L : List Jvm.Cond} {P : Jvm.Cond → Bool} (h1 : L.all (fun c => isCode c || P c) = true) (h2 : ∀ c ∈ L.filter isCode, P c = true) : L.all P = true := by
  refine List.all_eq_true.mpr fun c hc => ?_
  have h := List.all_eq_true.mp h1 c hc
  rcases Bool.eq_false_or_eq_true (isCode c) with hi | hi
  · exact h2 c (List.mem_filter.mpr ⟨hc, hi⟩)
  · simpa [hi] using h
set_option maxRecDepth 65536 in
theorem w_c0 : (Jvm.Cond.code x code maxLocals ret).before args0 about1 = true := code_word (m := ⟨1, 1⟩) (meth := k1m1) (c := k1c1) (by decide +kernel) rfl rfl rfl (by decide +kernel)
set_option maxRecDepth 65536 in
theorem w_c1 : (Jvm.Cond.code ({ cls := "com/example/gridwright/gridwright/engine/SmallDraft", name := "<init>", desc := "(II)V" } : Jvm.MethodName) prog_84_method_1_code (3 : Nat) (Option.none : Option Jvm.ClassFile.FieldType)).before args0 about1 = true := code_word (m := ⟨3, 0⟩) (meth := k3m0) (c := k3c0) (by decide +kernel) rfl rfl rfl (by decide +kernel)
set_option maxRecDepth 65536 in
theorem w_c2 : (Jvm.Cond.code ({ cls := "com/example/gridwright/gridwright/engine/Draft", name := "<init>", desc := "(II)V" } : Jvm.MethodName) prog_49_method_1_code (3 : Nat) (Option.none : Option Jvm.ClassFile.FieldType)).before args0 about1 = true := code_word (m := ⟨2, 0⟩) (meth := k2m0) (c := k2c0) (by decide +kernel) rfl rfl rfl (by decide +kernel)
set_option maxRecDepth 65536 in
theorem w_c3 : (Jvm.Cond.code ({ cls := "java/lang/Object", name := "<init>", desc := "()V" } : Jvm.MethodName) object_method_1_code (1 : Nat) (Option.none : Option Jvm.ClassFile.FieldType)).before args0 about1 = true := code_word (m := ⟨0, 0⟩) (meth := k0m0) (c := k0c0) (by decide +kernel) rfl rfl rfl (by decide +kernel)
set_option maxRecDepth 65536 in
theorem w_c4 : (Jvm.Cond.code ({ cls := "com/example/gridwright/gridwright/engine/Grid", name := "<init>", desc := "(II)V" } : Jvm.MethodName) prog_58_method_1_code (4 : Nat) (Option.none : Option Jvm.ClassFile.FieldType)).before args0 about1 = true := code_word (m := ⟨4, 0⟩) (meth := k4m0) (c := k4c0) (by decide +kernel) rfl rfl rfl (by decide +kernel)
set_option maxRecDepth 65536 in
theorem w_c5 : (Jvm.Cond.code ({ cls := "java/lang/Math", name := "multiplyExact", desc := "(II)I" } : Jvm.MethodName) jdk_29_method_28_code (4 : Nat) (Option.some Jvm.ClassFile.FieldType.int)).before args0 about1 = true := code_word (m := ⟨5, 1⟩) (meth := k5m1) (c := k5c1) (by decide +kernel) rfl rfl rfl (by decide +kernel)
set_option maxRecDepth 65536 in
theorem w_c6 : (Jvm.Cond.code ({ cls := "java/lang/Math", name := "max", desc := "(II)I" } : Jvm.MethodName) jdk_29_method_65_code (2 : Nat) (Option.some Jvm.ClassFile.FieldType.int)).before args0 about1 = true := code_word (m := ⟨5, 2⟩) (meth := k5m2) (c := k5c2) (by decide +kernel) rfl rfl rfl (by decide +kernel)
set_option maxRecDepth 65536 in
theorem w_c7 : (Jvm.Cond.code ({ cls := "com/example/gridwright/gridwright/engine/Grid", name := "wordsFor", desc := "(I)I" } : Jvm.MethodName) prog_58_method_13_code (1 : Nat) (Option.some Jvm.ClassFile.FieldType.int)).before args0 about1 = true := code_word (m := ⟨4, 3⟩) (meth := k4m3) (c := k4c3) (by decide +kernel) rfl rfl rfl (by decide +kernel)
set_option maxRecDepth 65536 in
theorem w_c8 : (Jvm.Cond.code ({ cls := "com/example/gridwright/gridwright/engine/Draft", name := "start", desc := "(Lcom/example/gridwright/gridwright/engine/Grid;)V" } : Jvm.MethodName) prog_49_method_3_code (2 : Nat) (Option.none : Option Jvm.ClassFile.FieldType)).before args0 about1 = true := code_word (m := ⟨2, 1⟩) (meth := k2m1) (c := k2c1) (by decide +kernel) rfl rfl rfl (by decide +kernel)
set_option maxRecDepth 65536 in
theorem w_c9 : (Jvm.Cond.code ({ cls := "com/example/gridwright/gridwright/engine/Grid", name := "width", desc := "()I" } : Jvm.MethodName) prog_58_method_2_code (1 : Nat) (Option.some Jvm.ClassFile.FieldType.int)).before args0 about1 = true := code_word (m := ⟨4, 1⟩) (meth := k4m1) (c := k4c1) (by decide +kernel) rfl rfl rfl (by decide +kernel)
set_option maxRecDepth 65536 in
theorem w_c10 : (Jvm.Cond.code ({ cls := "com/example/gridwright/gridwright/engine/Grid", name := "height", desc := "()I" } : Jvm.MethodName) prog_58_method_3_code (1 : Nat) (Option.some Jvm.ClassFile.FieldType.int)).before args0 about1 = true := code_word (m := ⟨4, 2⟩) (meth := k4m2) (c := k4c2) (by decide +kernel) rfl rfl rfl (by decide +kernel)
set_option maxRecDepth 65536 in
theorem w_c11 : (Jvm.Cond.code ({ cls := "com/example/gridwright/gridwright/engine/SmallDraft", name := "startOver", desc := "(Lcom/example/gridwright/gridwright/engine/Grid;)V" } : Jvm.MethodName) prog_84_method_2_code (4 : Nat) (Option.none : Option Jvm.ClassFile.FieldType)).before args0 about1 = true := code_word (m := ⟨3, 1⟩) (meth := k3m1) (c := k3c1) (by decide +kernel) rfl rfl rfl (by decide +kernel)
set_option maxRecDepth 65536 in
theorem w_c12 : (Jvm.Cond.code ({ cls := "com/example/gridwright/gridwright/engine/SmallDraft", name := "await", desc := "(I)V" } : Jvm.MethodName) prog_84_method_6_code (2 : Nat) (Option.none : Option Jvm.ClassFile.FieldType)).before args0 about1 = true := code_word (m := ⟨3, 2⟩) (meth := k3m2) (c := k3c2) (by decide +kernel) rfl rfl rfl (by decide +kernel)
set_option maxRecDepth 65536 in
theorem w_c13 : (Jvm.Cond.code ({ cls := "com/example/gridwright/gridwright/engine/SmallDraft", name := "next", desc := "()I" } : Jvm.MethodName) prog_84_method_7_code (2 : Nat) (Option.some Jvm.ClassFile.FieldType.int)).before args0 about1 = true := code_word (m := ⟨3, 3⟩) (meth := k3m3) (c := k3c3) (by decide +kernel) rfl rfl rfl (by decide +kernel)
set_option maxRecDepth 65536 in
theorem w_c14 : (Jvm.Cond.code ({ cls := "java/lang/Long", name := "numberOfTrailingZeros", desc := "(J)I" } : Jvm.MethodName) jdk_35_method_49_code (3 : Nat) (Option.some Jvm.ClassFile.FieldType.int)).before args0 about1 = true := code_word (m := ⟨11, 0⟩) (meth := k11m0) (c := k11c0) (by decide +kernel) rfl rfl rfl (by decide +kernel)
set_option maxRecDepth 65536 in
theorem w_c15 : (Jvm.Cond.code ({ cls := "java/lang/Integer", name := "numberOfTrailingZeros", desc := "(I)I" } : Jvm.MethodName) jdk_33_method_48_code (2 : Nat) (Option.some Jvm.ClassFile.FieldType.int)).before args0 about1 = true := code_word (m := ⟨12, 0⟩) (meth := k12m0) (c := k12c0) (by decide +kernel) rfl rfl rfl (by decide +kernel)
set_option maxRecDepth 65536 in
theorem w_c16 : (Jvm.Cond.code ({ cls := "java/lang/Math", name := "min", desc := "(II)I" } : Jvm.MethodName) jdk_29_method_69_code (2 : Nat) (Option.some Jvm.ClassFile.FieldType.int)).before args0 about1 = true := code_word (m := ⟨5, 3⟩) (meth := k5m3) (c := k5c3) (by decide +kernel) rfl rfl rfl (by decide +kernel)
set_option maxRecDepth 65536 in
theorem w_c17 : (Jvm.Cond.code ({ cls := "com/example/gridwright/gridwright/engine/Draft", name := "taken", desc := "()J" } : Jvm.MethodName) prog_49_method_10_code (1 : Nat) (Option.some Jvm.ClassFile.FieldType.long)).before args0 about1 = true := code_word (m := ⟨2, 3⟩) (meth := k2m3) (c := k2c3) (by decide +kernel) rfl rfl rfl (by decide +kernel)
def codes1 : List Jvm.Cond := [Jvm.Cond.code x code maxLocals ret, Jvm.Cond.code ({ cls := "com/example/gridwright/gridwright/engine/SmallDraft", name := "<init>", desc := "(II)V" } : Jvm.MethodName) prog_84_method_1_code (3 : Nat) (Option.none : Option Jvm.ClassFile.FieldType), Jvm.Cond.code ({ cls := "com/example/gridwright/gridwright/engine/Draft", name := "<init>", desc := "(II)V" } : Jvm.MethodName) prog_49_method_1_code (3 : Nat) (Option.none : Option Jvm.ClassFile.FieldType), Jvm.Cond.code ({ cls := "java/lang/Object", name := "<init>", desc := "()V" } : Jvm.MethodName) object_method_1_code (1 : Nat) (Option.none : Option Jvm.ClassFile.FieldType), Jvm.Cond.code ({ cls := "com/example/gridwright/gridwright/engine/Grid", name := "<init>", desc := "(II)V" } : Jvm.MethodName) prog_58_method_1_code (4 : Nat) (Option.none : Option Jvm.ClassFile.FieldType), Jvm.Cond.code ({ cls := "java/lang/Math", name := "multiplyExact", desc := "(II)I" } : Jvm.MethodName) jdk_29_method_28_code (4 : Nat) (Option.some Jvm.ClassFile.FieldType.int), Jvm.Cond.code ({ cls := "java/lang/Math", name := "max", desc := "(II)I" } : Jvm.MethodName) jdk_29_method_65_code (2 : Nat) (Option.some Jvm.ClassFile.FieldType.int), Jvm.Cond.code ({ cls := "com/example/gridwright/gridwright/engine/Grid", name := "wordsFor", desc := "(I)I" } : Jvm.MethodName) prog_58_method_13_code (1 : Nat) (Option.some Jvm.ClassFile.FieldType.int), Jvm.Cond.code ({ cls := "com/example/gridwright/gridwright/engine/Draft", name := "start", desc := "(Lcom/example/gridwright/gridwright/engine/Grid;)V" } : Jvm.MethodName) prog_49_method_3_code (2 : Nat) (Option.none : Option Jvm.ClassFile.FieldType), Jvm.Cond.code ({ cls := "com/example/gridwright/gridwright/engine/Grid", name := "width", desc := "()I" } : Jvm.MethodName) prog_58_method_2_code (1 : Nat) (Option.some Jvm.ClassFile.FieldType.int), Jvm.Cond.code ({ cls := "com/example/gridwright/gridwright/engine/Grid", name := "height", desc := "()I" } : Jvm.MethodName) prog_58_method_3_code (1 : Nat) (Option.some Jvm.ClassFile.FieldType.int), Jvm.Cond.code ({ cls := "com/example/gridwright/gridwright/engine/SmallDraft", name := "startOver", desc := "(Lcom/example/gridwright/gridwright/engine/Grid;)V" } : Jvm.MethodName) prog_84_method_2_code (4 : Nat) (Option.none : Option Jvm.ClassFile.FieldType), Jvm.Cond.code ({ cls := "com/example/gridwright/gridwright/engine/SmallDraft", name := "await", desc := "(I)V" } : Jvm.MethodName) prog_84_method_6_code (2 : Nat) (Option.none : Option Jvm.ClassFile.FieldType), Jvm.Cond.code ({ cls := "com/example/gridwright/gridwright/engine/SmallDraft", name := "next", desc := "()I" } : Jvm.MethodName) prog_84_method_7_code (2 : Nat) (Option.some Jvm.ClassFile.FieldType.int), Jvm.Cond.code ({ cls := "java/lang/Long", name := "numberOfTrailingZeros", desc := "(J)I" } : Jvm.MethodName) jdk_35_method_49_code (3 : Nat) (Option.some Jvm.ClassFile.FieldType.int), Jvm.Cond.code ({ cls := "java/lang/Integer", name := "numberOfTrailingZeros", desc := "(I)I" } : Jvm.MethodName) jdk_33_method_48_code (2 : Nat) (Option.some Jvm.ClassFile.FieldType.int), Jvm.Cond.code ({ cls := "java/lang/Math", name := "min", desc := "(II)I" } : Jvm.MethodName) jdk_29_method_69_code (2 : Nat) (Option.some Jvm.ClassFile.FieldType.int), Jvm.Cond.code ({ cls := "com/example/gridwright/gridwright/engine/Draft", name := "taken", desc := "()J" } : Jvm.MethodName) prog_49_method_10_code (1 : Nat) (Option.some Jvm.ClassFile.FieldType.long)]
set_option maxRecDepth 65536 in
theorem codes_eq : words1.filter isCode = codes1 := rfl
theorem w_codes : ∀ c ∈ words1.filter isCode, c.before args0 about1 = true := by
  rw [codes_eq]
  intro c hc
  simp only [codes1, List.mem_cons, List.not_mem_nil, or_false] at hc
  rcases hc with rfl | rfl | rfl | rfl | rfl | rfl | rfl | rfl | rfl | rfl | rfl | rfl | rfl | rfl | rfl | rfl | rfl | rfl
  · exact w_c0
  · exact w_c1
  · exact w_c2
  · exact w_c3
  · exact w_c4
  · exact w_c5
  · exact w_c6
  · exact w_c7
  · exact w_c8
  · exact w_c9
  · exact w_c10
  · exact w_c11
  · exact w_c12
  · exact w_c13
  · exact w_c14
  · exact w_c15
  · exact w_c16
  · exact w_c17
set_option maxRecDepth 65536 in
theorem w_t1 : (words1.take 24).all (fun c => isCode c || c.before args0 about1) = true := by decide +kernel
set_option maxRecDepth 65536 in
theorem w_t2 : ((words1.drop 24).take 24).all (fun c => isCode c || c.before args0 about1) = true := by decide +kernel
set_option maxRecDepth 65536 in
theorem w_t3 : (((words1.drop 24).drop 24).take 24).all (fun c => isCode c || c.before args0 about1) = true := by decide +kernel
set_option maxRecDepth 65536 in
theorem w_t4 : ((((words1.drop 24).drop 24).drop 24).take 24).all (fun c => isCode c || c.before args0 about1) = true := by decide +kernel
set_option maxRecDepth 65536 in
theorem w_t5 : (((((words1.drop 24).drop 24).drop 24).drop 24).take 24).all (fun c => isCode c || c.before args0 about1) = true := by decide +kernel
set_option maxRecDepth 65536 in
theorem w_t6 : (((((words1.drop 24).drop 24).drop 24).drop 24).drop 24).all (fun c => isCode c || c.before args0 about1) = true := by decide +kernel
theorem w_tables : (allAtoms (Jvm.Cond.code x code maxLocals ret :: tables_1)).before args0 about1 = true := by
  rw [allAtoms_all]
  show words1.all (fun c => c.before args0 about1) = true
  refine all_split ?_ w_codes
  rw [← List.take_append_drop 24 words1, List.all_append, w_t1, ← List.take_append_drop 24 (words1.drop 24), List.all_append, w_t2, ← List.take_append_drop 24 ((words1.drop 24).drop 24), List.all_append, w_t3, ← List.take_append_drop 24 (((words1.drop 24).drop 24).drop 24), List.all_append, w_t4, ← List.take_append_drop 24 ((((words1.drop 24).drop 24).drop 24).drop 24), List.all_append, w_t5, w_t6]
  rfl
set_option maxRecDepth 65536 in
theorem w_case : (Jvm.Cond.and given_1 narrow_1).before args0 about1 = true := by decide +kernel
theorem w_applies : (headSpec (Jvm.Cond.code x code maxLocals ret :: tables_1) room_1).applies x e0.platform about1 = true :=
  (Spec.applies_iff w_frames).mpr ⟨w_running, w_runnable, w_alone, w_named, w_hears, w_ripe, w_room, w_tables⟩
theorem atStart : AtStart classFile x code maxLocals ret World_1 tables_1 room_1 Calls_1 rest_1 Pre_1 launch0 p0 e0 about1 theMethod args0 below0 :=
  ⟨lists_1, trivial, launch0.admits_env _ _ _, launch0.least_env, fairChoices_fair.cas, fairChoices_fair.clock, w_frames, w_args, w_heap, w_applies, trivial, trivial, w_case⟩
end start1
theorem witness_1 : WitnessClaimed_1 := ⟨start1.p0, start1.e0, start1.about1, start1.theMethod, start1.args0, start1.below0, start1.atStart⟩
end Jvm.Pilot.@@N@@
