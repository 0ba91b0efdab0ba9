import JvmDerived
import JvmDerived.Pilot.@@N@@Statement
import JvmDerived.Pilot.@@N@@Code
set_option linter.unusedVariables false
set_option linter.unusedSimpArgs false
namespace Jvm.RoadKit
open Sem ClassFile Op Lib Jvm.Stand Jvm.Free Jvm.LawKit
section New
variable {p : Program} {l : Launch} {e : Env} {R : Room} {s : State} {m : MethodId} {args : Array Value} {below : List Frame} {meth : Method} {c : Code} {T : State} {locs : List Loc} {cells slots : Nat}
theorem retI (X : Stand p l e R s m args below meth c T locs cells slots) (hx : p.tables.exec = Jvm.exec) {pc : Nat} {Ls : Array Slot} {z : Int32} {rest : List Value} (hret : meth.sig.returnType = some .int) (hd : decode c.code pc = .ok (.ireturn, 1)) {fs : List Frame}
    (hl : ∀ (f : JFrame) (acts : List Action), f.method = m → f.locked = none → f.entered = [] → (doReturn e (T.setTop f) acts (some (.int z))).1 = T.setFrames fs) : Steps p.tables e below (T.setTop (mkF m pc Ls (.int z :: rest))) (T.setFrames fs) := by
  have hm' : T.vm.method? m = some meth := X.method'
  have hn : narrow .int (.int z) = .int z := rfl
  show Steps p.tables e below (T.setTop { method := m, pc := pc, locals := Ls, stack := _ :: rest, locked := none }) _
  jvm_step X.here [X.here.top, hx, hd, hm', hret, hn]
  first | (intro acts; rw [hl _ acts rfl rfl rfl]) | rw [hl _ _ rfl rfl rfl]
  exact Steps.refl _
end New
end Jvm.RoadKit
namespace Jvm.Pilot.@@N@@
open Jvm Jvm.ClassFile Sem Op Lib Jvm.Free Jvm.Stand Jvm.LawKit Jvm.RoadKit Bundle Jvm.Pilot.@@N@@.Jvm.D
/-- the run from a frame of this method ends in a return with Q -/
def Go (p : Program) (e : Env) (s : State) (below : List Frame) (kc ks : Nat) (Q : Option Value → Heap → List Loc → Prop) (T : State) (f : JFrame) : Prop :=
  ∃ s₂ o, Steps p.tables e below (T.setTop f) s₂ ∧ s₂.status = .running ∧ Ended s₂ below o ∧ ∃ v L, o = .returned v ∧ Q v s₂.heap L ∧ FrameEnd s o s₂ L kc ks
/-- what is known of the method that runs -/
def Cx (p : Program) (s : State) (m : MethodId) (meth : Method) (c : Code) (Z : State) (own nm : String) (code : ByteArray) (maxL : Nat) (ret : Option FieldType) : Prop :=
  p.tables.exec = Jvm.exec ∧ Z.Warmed39 s.vm ∧ c.code = code ∧ c.maxLocals = maxL ∧ s.vm.findClass own = some m.cls ∧ meth.name = nm ∧ meth.sig.returnType = ret ∧ meth.locks = false
/-- a contract -/
def Ctr (l : Launch) (Z : State) (y : MethodName) (bytes : ByteArray) (maxL : Nat) (ret : Option FieldType) (ws : List Jvm.Cond) (rm : Room) (kc ks : Nat) (as : Array Value) (h : Heap) (Q : Option Value → Heap → List Loc → Prop) : Prop :=
  MetFree l y (head1 (Jvm.Cond.code y bytes maxL ret :: ws) rm) (fun a U => a = as ∧ Z.Warmed39 U.vm ∧ U.heap = h) (fun _ _ _ _ _ => True) (fun _ U o U' => ∃ v L, o = .returned v ∧ Q v U'.heap L ∧ FrameEnd U o U' L kc ks)
def bi (P : Prop) [Decidable P] : Int32 := if P then 1 else 0
theorem bi_t {P : Prop} [Decidable P] (h : P) : bi P = 1 := if_pos h
theorem bi_f {P : Prop} [Decidable P] (h : ¬ P) : bi P = 0 := if_neg h
theorem bi_n {P : Prop} [Decidable P] (h : P) : ¬ bi P = 0 := by rw [bi_t h]; decide
theorem bi_1 {P : Prop} [Decidable P] : bi P = 1 ↔ P := by unfold bi; split <;> simp_all
theorem bi_0 {P : Prop} [Decidable P] : bi P = 0 ↔ ¬ P := by unfold bi; split <;> simp_all
theorem bi_eq {P P' : Prop} [Decidable P] [Decidable P'] : bi P = bi P' ↔ (P ↔ P') := by unfold bi; split <;> split <;> simp_all
theorem bi_congr {P P' : Prop} [Decidable P] [Decidable P'] (h : P ↔ P') : bi P = bi P' := bi_eq.mpr h
theorem bi_fits {P : Prop} [Decidable P] : fits .boolean (.int (bi P)) = true := by unfold bi; split <;> rfl
theorem bi_nar {P : Prop} [Decidable P] : nar .boolean (bi P) = bi P := by unfold bi; split <;> rfl
section Own
variable {p : Program} {l : Launch} {e : Env} {R : Room} {s : State} {m : MethodId} {args : Array Value} {below : List Frame} {meth : Method} {c : Code} {T : State} {locs : List Loc} {cells slots kc ks : Nat} {Q : Option Value → Heap → List Loc → Prop} {Z : State} {a0 : Array Value} {h : Heap}
theorem Go.step {T' : State} {f f' : JFrame} (st : ∀ t, Steps p.tables e below (T'.setTop f') t → Steps p.tables e below (T.setTop f) t) (k : Go p e s below kc ks Q T' f') : Go p e s below kc ks Q T f := by
  obtain ⟨s₂, o, h1, r⟩ := k; exact ⟨s₂, o, st _ h1, r⟩
theorem Go.mono {Q' : Option Value → Heap → List Loc → Prop} {f : JFrame} (k : Go p e s below kc ks Q T f) (h : ∀ v h L, Q v h L → Q' v h L) : Go p e s below kc ks Q' T f := by
  obtain ⟨s₂, o, h1, h2, h3, v, L, h4, h5, h6⟩ := k; exact ⟨s₂, o, h1, h2, h3, v, L, h4, h _ _ _ h5, h6⟩
theorem Ctr.mk {y : MethodName} {bytes : ByteArray} {maxL : Nat} {ret : Option FieldType} {ws : List Jvm.Cond} {rm : Room} {as : Array Value} (hp : plainFor y = true)
    (hgo : ∀ (p : Program) (e : Env) (s : State) (m : MethodId) (below : List Frame) (meth : Method) (c : Code) (s₁ : State), Stand p l e rm s m as below meth c s₁ [] 0 0 → Cx p s m meth c Z y.cls y.name bytes maxL ret → s₁.heap = h → Go p e s below kc ks Q s₁ (entryFrame m as maxL)) :
    Ctr l Z y bytes maxL ret ws rm kc ks as h Q := by
  refine MetFree.of_bodySF hp hisR ?_
  intro p e s m args below meth c s₁ Bd hml0 hP hK
  obtain ⟨rfl, hZ, hh⟩ := hP
  exact hgo p e s m below meth c s₁ (Stand.of_body Bd) ⟨Bd.exec, hZ, Bd.bytes, hml0, findClass_of_methodNamed Bd.named, (name_of_methodNamed Bd.named Bd.method).1, Bd.returns, Bd.notSynchronized⟩ (by rw [← hh, Bd.state]; rfl)
theorem go_cast {f f' : JFrame} (q : f = f') (k : Go p e s below kc ks Q T f') : Go p e s below kc ks Q T f := q ▸ k
theorem go_retI (X : Stand p l e R s m args below meth c T locs cells slots) (hx : p.tables.exec = Jvm.exec) (hret : meth.sig.returnType = some .int) (hlk : meth.locks = false) {pc : Nat} {Ls : Array Slot} {z : Int32} {rest : List Value} (hd : decode c.code pc = .ok (.ireturn, 1))
    (hQ : Q (some (.int z)) T.heap locs) (hc : cells ≤ kc) (hs : slots ≤ ks) : Go p e s below kc ks Q T (mkF m pc Ls (.int z :: rest)) := by
  obtain ⟨fs, hr, hrun, hended, hW, hsame⟩ := X.leave (v := some (.int z)) (fun h => by rw [hret] at h; cases h) hlk
  exact ⟨_, _, retI X hx hret hd hr, hrun, hended, _, _, rfl, hQ, ⟨_, rfl⟩, hW, hsame.mono hc hs⟩
theorem go_retN (X : Stand p l e R s m args below meth c T locs cells slots) (hx : p.tables.exec = Jvm.exec) {t : FieldType} (hret : meth.sig.returnType = some t) (ht : t = .boolean ∨ t = .byte ∨ t = .char ∨ t = .short) (hlk : meth.locks = false) {pc : Nat} {Ls : Array Slot} {z w : Int32} {rest : List Value} (hd : decode c.code pc = .ok (.ireturn, 1))
    (hz : nar t z = w) (hQ : Q (some (.int w)) T.heap locs) (hc : cells ≤ kc) (hs : slots ≤ ks) : Go p e s below kc ks Q T (mkF m pc Ls (.int z :: rest)) := by
  subst hz
  obtain ⟨fs, hr, hrun, hended, hW, hsame⟩ := X.leave (v := some (.int (nar t z))) (fun h => by rw [hret] at h; cases h) hlk
  exact ⟨_, _, retN X hx hret ht hd hr, hrun, hended, _, _, rfl, hQ, ⟨_, rfl⟩, hW, hsame.mono hc hs⟩
theorem go_retJ (X : Stand p l e R s m args below meth c T locs cells slots) (hx : p.tables.exec = Jvm.exec) (hret : meth.sig.returnType = some .long) (hlk : meth.locks = false) {pc : Nat} {Ls : Array Slot} {z : Int64} (hd : decode c.code pc = .ok (.lreturn, 1))
    (hQ : Q (some (.long z)) T.heap locs) (hc : cells ≤ kc) (hs : slots ≤ ks) : Go p e s below kc ks Q T (mkF m pc Ls [.long z]) := by
  obtain ⟨fs, hr, hrun, hended, hW, hsame⟩ := X.leave (v := some (.long z)) (fun h => by rw [hret] at h; cases h) hlk
  exact ⟨_, _, X.lreturnOut hx hret hd hr, hrun, hended, _, _, rfl, hQ, ⟨_, rfl⟩, hW, hsame.mono hc hs⟩
theorem go_retA (X : Stand p l e R s m args below meth c T locs cells slots) (hx : p.tables.exec = Jvm.exec) {t : FieldType} (hret : meth.sig.returnType = some t) (ht : t.isReference = true) (hlk : meth.locks = false) {pc : Nat} {Ls : Array Slot} {w : Value} {rest : List Value} (hw : w.isRef = true) (hd : decode c.code pc = .ok (.areturn, 1))
    (hQ : Q (some w) T.heap locs) (hc : cells ≤ kc) (hs : slots ≤ ks) : Go p e s below kc ks Q T (mkF m pc Ls (w :: rest)) := by
  obtain ⟨fs, hr, hrun, hended, hW, hsame⟩ := X.leave (v := some w) (fun h => by rw [hret] at h; cases h) hlk
  have hn : narrow t w = w := by cases t <;> first | rfl | simp [FieldType.isReference] at ht
  exact ⟨_, _, retOut X hx hret hn (Or.inr (Or.inr (Or.inr (Or.inr ⟨rfl, ht, hw⟩)))) hd hr, hrun, hended, _, _, rfl, hQ, ⟨_, rfl⟩, hW, hsame.mono hc hs⟩
theorem go_ret (X : Stand p l e R s m args below meth c T locs cells slots) (hx : p.tables.exec = Jvm.exec) (hret : meth.sig.returnType = none) (hlk : meth.locks = false) {pc : Nat} {Ls : Array Slot} (hd : decode c.code pc = .ok (.return_, 1))
    (hQ : Q none T.heap locs) (hc : cells ≤ kc) (hs : slots ≤ ks) : Go p e s below kc ks Q T (mkF m pc Ls []) := by
  obtain ⟨fs, hr, hrun, hended, hW, hsame⟩ := X.leave (v := none) (fun _ => rfl) hlk
  exact ⟨_, _, X.returnOut hx hret hd hr, hrun, hended, _, _, rfl, hQ, ⟨_, rfl⟩, hW, hsame.mono hc hs⟩
/-! calls by a contract -/
section Calls
variable {own : String} {index : Nat} {y : MethodName} {bytes : ByteArray} {maxL : Nat} {ret r : Option FieldType} {rm : Room} {Qc : Option Value → Heap → List Loc → Prop} {argsL rest : List Value} {ps : List FieldType} {pc W : Nat} {Ls : Array Slot} {a : Addr}
theorem c_static (X : Stand p l e R s m args below meth c T locs cells slots) (hx : p.tables.exec = Jvm.exec) (hZ : Z.Warmed39 s.vm) (hown : s.vm.findClass own = some m.cls)
    (w1 : (Jvm.Cond.methodLink own index y).before a0 Z = true) (w2 : (Jvm.Cond.static y).before a0 Z = true) (w3 : (Jvm.Cond.initialized y.cls).before a0 Z = true) (w4 : (Jvm.Cond.code y bytes maxL ret).before a0 Z = true) (hy : y.cls ≠ "java/lang/invoke/MethodHandle" ∧ y.cls ≠ "java/lang/invoke/VarHandle")
    (hC : Ctr l Z y bytes maxL ret [] rm rm.cells rm.slots argsL.toArray h Qc) (eT : T.heap = h) (hpd : parseMethodDescriptor y.desc = some ⟨ps, r⟩) (hlen : argsL.length = ps.length) (hsz : Ls.size = c.maxLocals) (hW : 2 * 0 + (rest.map fun v => v.category).sum ≤ W)
    (hf : rm.frames + 1 ≤ R.frames) (hl : W + (maxL + 11) + rm.locals ≤ R.locals) (hc : cells + rm.cells ≤ R.cells) (hs : slots + rm.slots ≤ R.slots) (hd : decode c.code pc = .ok (.invokestatic index, 3)) :
    ∃ (v : Option Value) (T' : State) (L : List Loc), Stand p l e R s m args below meth c T' (locs ++ L) (cells + rm.cells) (slots + rm.slots) ∧ Qc v T'.heap L ∧
      ∀ t, Steps p.tables e below (T'.setTop (mkF m (pc + 3) Ls (v.toList ++ rest))) t → Steps p.tables e below (T.setTop (mkF m pc Ls (argsL.reverse ++ rest))) t := by
  obtain ⟨v, _, ⟨T', L', k', n'⟩, -, X', ⟨L, hQ, rfl, rfl, rfl⟩, st⟩ := Jvm.LawKit.callS X hx (y := y) hown (mvT hZ w1) (mvT hZ w2) (mvT hZ w3) (mvT hZ w4) hy (backOf (W := W) hC hZ w4 w3 hf hl) (g := mkF m pc Ls (argsL.reverse ++ rest)) rfl hsz (argsL := argsL) (rest := rest) (lenOf hpd hlen) rfl hW hd (fun _ _ => ⟨rfl, eT, hc, hs⟩)
  exact ⟨v, T', L, X', hQ, st⟩
theorem c_init (X : Stand p l e R s m args below meth c T locs cells slots) (hx : p.tables.exec = Jvm.exec) (hZ : Z.Warmed39 s.vm) (hown : s.vm.findClass own = some m.cls)
    (w1 : (Jvm.Cond.methodLink own index y).before a0 Z = true) (w2 : (Jvm.Cond.instanceMethod y).before a0 Z = true) (w3 : (Jvm.Cond.initialized y.cls).before a0 Z = true) (w4 : (Jvm.Cond.code y bytes maxL none).before a0 Z = true) (hn : y.name = "<init>") (hy : y.cls ≠ "java/lang/invoke/MethodHandle" ∧ y.cls ≠ "java/lang/invoke/VarHandle")
    (hC : Ctr l Z y bytes maxL none [] rm rm.cells rm.slots (.ref a :: argsL).toArray h Qc) (eT : T.heap = h) (hpd : parseMethodDescriptor y.desc = some ⟨ps, r⟩) (hlen : argsL.length = ps.length) (hsz : Ls.size = c.maxLocals) (hW : 2 * 0 + (rest.map fun v => v.category).sum ≤ W)
    (hf : rm.frames + 1 ≤ R.frames) (hl : W + (maxL + 11) + rm.locals ≤ R.locals) (hc : cells + rm.cells ≤ R.cells) (hs : slots + rm.slots ≤ R.slots) (hd : decode c.code pc = .ok (.invokespecial index, 3)) :
    ∃ (v : Option Value) (T' : State) (L : List Loc), Stand p l e R s m args below meth c T' (locs ++ L) (cells + rm.cells) (slots + rm.slots) ∧ Qc v T'.heap L ∧
      ∀ t, Steps p.tables e below (T'.setTop (mkF m (pc + 3) Ls (v.toList ++ rest))) t → Steps p.tables e below (T.setTop (mkF m pc Ls (argsL.reverse ++ .ref a :: rest))) t := by
  obtain ⟨v, _, ⟨T', L', k', n'⟩, -, X', ⟨L, hQ, rfl, rfl, rfl⟩, st⟩ := X.specialBack hx (y := y) hn hown (mvT hZ w1) (mvT hZ w2) (mvT hZ w4) hy (backOf (W := W) hC hZ w4 w3 hf hl) (g := mkF m pc Ls (argsL.reverse ++ .ref a :: rest)) rfl hsz (Steps.refl _) (a := a) (argsL := argsL) (rest := rest) (lenOf hpd hlen) rfl hW hd (fun _ _ => ⟨rfl, eT, hc, hs⟩)
  exact ⟨v, T', L, X', hQ, fun t k => st.trans k⟩
theorem c_virt {y' : MethodName} {C : String} (X : Stand p l e R s m args below meth c T locs cells slots) (hx : p.tables.exec = Jvm.exec) (hZ : Z.Warmed39 s.vm) (hown : s.vm.findClass own = some m.cls)
    (w1 : (Jvm.Cond.methodLink own index y').before a0 Z = true) (wd : (Jvm.Cond.declares y').before a0 Z = true) (nf : NotFace s y') (ws : (Jvm.Cond.selects C y' y).before a0 Z = true) (w2 : (Jvm.Cond.instanceMethod y).before a0 Z = true) (w3 : (Jvm.Cond.initialized y.cls).before a0 Z = true) (w4 : (Jvm.Cond.code y bytes maxL ret).before a0 Z = true) (hy : y'.cls ≠ "java/lang/invoke/MethodHandle" ∧ y'.cls ≠ "java/lang/invoke/VarHandle")
    (hC : Ctr l Z y bytes maxL ret [] rm rm.cells rm.slots (.ref a :: argsL).toArray h Qc) (eT : T.heap = h) (E : Exa Z h a C) (hpd : parseMethodDescriptor y'.desc = some ⟨ps, r⟩) (hlen : argsL.length = ps.length) (hsz : Ls.size = c.maxLocals) (hW : 2 * 0 + (rest.map fun v => v.category).sum ≤ W)
    (hf : rm.frames + 1 ≤ R.frames) (hl : W + (maxL + 11) + rm.locals ≤ R.locals) (hc : cells + rm.cells ≤ R.cells) (hs : slots + rm.slots ≤ R.slots) (hd : decode c.code pc = .ok (.invokevirtual index, 3)) :
    ∃ (v : Option Value) (T' : State) (L : List Loc), Stand p l e R s m args below meth c T' (locs ++ L) (cells + rm.cells) (slots + rm.slots) ∧ Qc v T'.heap L ∧
      ∀ t, Steps p.tables e below (T'.setTop (mkF m (pc + 3) Ls (v.toList ++ rest))) t → Steps p.tables e below (T.setTop (mkF m pc Ls (argsL.reverse ++ .ref a :: rest))) t := by
  obtain ⟨cq, kq, qa, qb, qc⟩ := isOf hZ eT E
  obtain ⟨v, _, ⟨T', L', k', n'⟩, -, X', ⟨L, hQ, rfl, rfl, rfl⟩, st⟩ := X.virtualBack hx (y := y') (z := y) hown (mvT hZ w1) (mvT hZ wd) nf (mvT hZ ws) (mvT hZ w2) hy (backOf (W := W) hC hZ w4 w3 hf hl) qa qc (g := mkF m pc Ls (argsL.reverse ++ .ref a :: rest)) rfl hsz (Steps.refl _) (argsL := argsL) (rest := rest) (lenOf hpd hlen) rfl hW hd (fun _ _ => ⟨rfl, eT, hc, hs⟩)
  exact ⟨v, T', L, X', hQ, fun t k => st.trans k⟩
theorem own_nf {y' z : MethodName} {C : String} {as : Array Value} (ws : (Jvm.Cond.selects C y' z).before as s = true) (h : z.cls = y.cls) : NotFace s y := fun r0 h0 => by
  obtain ⟨_, _, m2, -, -, q3, -, kP, hkP, hkPi⟩ := Cond.selects_spec ws
  have e1 := findClass_of_methodNamed q3
  rw [h] at e1
  have e2 : m2.cls = r0.cls := Option.some.inj (e1.symm.trans (findClass_of_methodNamed h0))
  exact ⟨kP, e2 ▸ hkP, hkPi⟩
/-- a private method of an object, by invokevirtual: its class isn't an interface (nf) -/
theorem c_priv {C : String} (X : Stand p l e R s m args below meth c T locs cells slots) (hx : p.tables.exec = Jvm.exec) (hZ : Z.Warmed39 s.vm) (hown : s.vm.findClass own = some m.cls)
    (w1 : (Jvm.Cond.methodLink own index y).before a0 Z = true) (w2 : (Jvm.Cond.instanceMethod y).before a0 Z = true) (nf : NotFace s y) (wp : (Jvm.Cond.privateMethod y).before a0 Z = true) (w3 : (Jvm.Cond.initialized y.cls).before a0 Z = true) (w4 : (Jvm.Cond.code y bytes maxL ret).before a0 Z = true) (hy : y.cls ≠ "java/lang/invoke/MethodHandle" ∧ y.cls ≠ "java/lang/invoke/VarHandle")
    (hC : Ctr l Z y bytes maxL ret [] rm rm.cells rm.slots (.ref a :: argsL).toArray h Qc) (eT : T.heap = h) (E : Exa Z h a C) (hpd : parseMethodDescriptor y.desc = some ⟨ps, r⟩) (hlen : argsL.length = ps.length) (hsz : Ls.size = c.maxLocals) (hW : 2 * 0 + (rest.map fun v => v.category).sum ≤ W)
    (hf : rm.frames + 1 ≤ R.frames) (hl : W + (maxL + 11) + rm.locals ≤ R.locals) (hc : cells + rm.cells ≤ R.cells) (hs : slots + rm.slots ≤ R.slots) (hd : decode c.code pc = .ok (.invokevirtual index, 3)) :
    ∃ (v : Option Value) (T' : State) (L : List Loc), Stand p l e R s m args below meth c T' (locs ++ L) (cells + rm.cells) (slots + rm.slots) ∧ Qc v T'.heap L ∧
      ∀ t, Steps p.tables e below (T'.setTop (mkF m (pc + 3) Ls (v.toList ++ rest))) t → Steps p.tables e below (T.setTop (mkF m pc Ls (argsL.reverse ++ .ref a :: rest))) t := by
  obtain ⟨cq, qa, qb⟩ := E.cell
  obtain ⟨mk, methM, hnamed, hmethM, hstM, habM⟩ := Cond.instanceMethod_spec (mvT (args := args) hZ w2)
  obtain ⟨methM', cM, hmethM', -, -, -, -, -, -, hsigM⟩ := Cond.code_spec hnamed (mvT (args := args) hZ w4)
  cases hmethM.symm.trans hmethM'
  obtain ⟨kP, hkP, hkPi⟩ := nf mk hnamed
  have hsel : selectMethod e.platform s.vm cq.cls mk = .method mk := selectMethod_private hmethM ((Cond.privateMethod_at (mvP hZ wp (args := #[]))) mk methM hnamed hmethM)
  obtain ⟨vm₁, X₁, hst⟩ := X.invokevirtual hx hown (mvT hZ w1) hnamed hmethM hstM hkP hkPi hy (a := a) (cell := cq) (by rw [eT]; exact qa) qb hsel hmethM habM hkP hkPi (g := mkF m pc Ls (argsL.reverse ++ .ref a :: rest)) rfl (argsL := argsL) (rest := rest) (lenOf hpd hlen _ hsigM) rfl hd
  obtain ⟨v, ⟨T', L', k', n'⟩, X', ⟨L, hQ, rfl, rfl, rfl⟩, hgo⟩ := (backOf (W := W) (len := 3) hC hZ w4 w3 hf hl) m meth c ⟨T.setVm vm₁, locs, cells, slots⟩ (mkF m pc Ls rest) (.invokevirtual index) mk (.ref a :: argsL).toArray X₁ rfl hsz hd hW (X₁.named hnamed) ⟨rfl, eT, hc, hs⟩
  exact ⟨v, T', L, X', hQ, fun t k => ((hst _ fun acts => by rw [doInvoke_state]; exact Steps.refl _).trans hgo).trans k⟩
/-- invokevirtual of a method that a class above the one that the entry names declares -/
theorem c_virtUp {y' : MethodName} {C owner : String} (X : Stand p l e R s m args below meth c T locs cells slots) (hx : p.tables.exec = Jvm.exec) (hZ : Z.Warmed39 s.vm) (hown : s.vm.findClass own = some m.cls)
    (w1 : (Jvm.Cond.methodLink own index y').before a0 Z = true) (wm : (Jvm.Cond.sameMethod y'.cls owner y'.name y'.desc).before a0 Z = true) (wd : (Jvm.Cond.declares ⟨owner, y'.name, y'.desc⟩).before a0 Z = true) (ws : (Jvm.Cond.selects C y' y).before a0 Z = true) (w2 : (Jvm.Cond.instanceMethod y).before a0 Z = true) (w3 : (Jvm.Cond.initialized y.cls).before a0 Z = true) (w4 : (Jvm.Cond.code y bytes maxL ret).before a0 Z = true) (hy : owner ≠ "java/lang/invoke/MethodHandle" ∧ owner ≠ "java/lang/invoke/VarHandle")
    (hC : Ctr l Z y bytes maxL ret [] rm rm.cells rm.slots (.ref a :: argsL).toArray h Qc) (eT : T.heap = h) (E : Exa Z h a C) (hpd : parseMethodDescriptor y'.desc = some ⟨ps, r⟩) (hlen : argsL.length = ps.length) (hsz : Ls.size = c.maxLocals) (hW : 2 * 0 + (rest.map fun v => v.category).sum ≤ W)
    (hf : rm.frames + 1 ≤ R.frames) (hl : W + (maxL + 11) + rm.locals ≤ R.locals) (hc : cells + rm.cells ≤ R.cells) (hs : slots + rm.slots ≤ R.slots) (hd : decode c.code pc = .ok (.invokevirtual index, 3)) :
    ∃ (v : Option Value) (T' : State) (L : List Loc), Stand p l e R s m args below meth c T' (locs ++ L) (cells + rm.cells) (slots + rm.slots) ∧ Qc v T'.heap L ∧
      ∀ t, Steps p.tables e below (T'.setTop (mkF m (pc + 3) Ls (v.toList ++ rest))) t → Steps p.tables e below (T.setTop (mkF m pc Ls (argsL.reverse ++ .ref a :: rest))) t := by
  obtain ⟨cq, kq, qa, qb, qc⟩ := isOf hZ eT E
  obtain ⟨v, _, ⟨T', L', k', n'⟩, -, X', ⟨L, hQ, rfl, rfl, rfl⟩, st⟩ := X.virtualBackUp hx (x := y') (y := y) hown (mvT hZ w1) (mvT hZ wm) (mvT hZ wd) hy (mvT hZ ws) (mvT hZ w2) (backOf (W := W) hC hZ w4 w3 hf hl) qa qc (g := mkF m pc Ls (argsL.reverse ++ .ref a :: rest)) rfl hsz (Steps.refl _) (argsL := argsL) (rest := rest) (lenOf hpd hlen) rfl hW hd (fun _ _ => ⟨rfl, eT, hc, hs⟩)
  exact ⟨v, T', L, X', hQ, fun t k => st.trans k⟩
end Calls
end Own
def bt (b : Int64) (i : Nat) : Bool := b.toBitVec.getLsbD i
def Bits (S : Nat → Bool) (u0 u1 u2 u3 : Int64) : Prop := ∀ i, i < 64 → bt u0 i = S i ∧ bt u1 i = S (64 + i) ∧ bt u2 i = S (128 + i) ∧ bt u3 i = S (192 + i)
abbrev ins (S : Nat → Bool) (n : Nat) : Nat → Bool := fun i => S i || decide (i = n)
abbrev del (S : Nat → Bool) (n : Nat) : Nat → Bool := fun i => S i && !decide (i = n)
abbrev Emp (S : Nat → Bool) : Prop := ∀ i, i < 256 → S i = false
abbrev sh (x : Int32) : Int64 := (1 : Int64) <<< (x &&& 0x3f).toInt64
theorem own_mod (n : Nat) (h : n < 256) : (Int32.ofNat n).toBitVec.toNat % 64 = n % 64 := by
  show (BitVec.ofNat 32 n).toNat % 64 = n % 64
  rw [BitVec.toNat_ofNat]; omega
theorem own_sh (n i : Nat) (h : n < 256) (hi : i < 64) : bt (sh (Int32.ofNat n)) i = decide (i = n % 64) := by
  show (((1 : Int64).toBitVec <<< ((Int32.ofNat n &&& 0x3f).toInt64.toBitVec.smod 64))).getLsbD i = _
  rw [BitVec.shiftLeft_eq', (sm64 _ _ (own_mod n h)).1, smod64 _ (sm64 _ _ (own_mod n h)).2, BitVec.getLsbD_shiftLeft, show (1 : Int64).toBitVec = 1#64 from rfl, BitVec.getLsbD_one]
  by_cases q : i = n % 64
  · subst q; simp [hi]
  · by_cases r : i < n % 64
    · simp [r, q]
    · have : ¬ (i - n % 64 = 0) := by omega
      simp [q, this]
theorem own_bor (a b : Int64) (i : Nat) : bt (a ||| b) i = (bt a i || bt b i) := by
  show (a ||| b).toBitVec.getLsbD i = _
  rw [Int64.toBitVec_or, BitVec.getLsbD_or]; rfl
theorem own_band (a b : Int64) (i : Nat) : bt (a &&& b) i = (bt a i && bt b i) := by
  show (a &&& b).toBitVec.getLsbD i = _
  rw [Int64.toBitVec_and, BitVec.getLsbD_and]; rfl
theorem own_bnot (a : Int64) (i : Nat) (hi : i < 64) : bt (a ^^^ (-1 : Int64)) i = !bt a i := by
  show (a ^^^ (-1 : Int64)).toBitVec.getLsbD i = _
  rw [Int64.toBitVec_xor, BitVec.getLsbD_xor, show (-1 : Int64).toBitVec = BitVec.allOnes 64 from by decide, BitVec.getLsbD_allOnes]
  simp [hi, bt]
theorem own_zero (a : Int64) : a = 0 ↔ ∀ i, i < 64 → bt a i = false := by
  constructor
  · rintro rfl i hi; show (0#64).getLsbD i = false; simp
  · intro h; refine Int64.toBitVec_inj.mp (BitVec.eq_of_getLsbD_eq fun i hi => ?_)
    rw [show a.toBitVec.getLsbD i = false from h i hi]; show _ = (0#64).getLsbD i; simp
theorem Bits.zero : Bits (fun _ => false) 0 0 0 0 := fun i hi => by
  have h := (own_zero 0).mp rfl i hi
  exact ⟨h, h, h, h⟩
theorem own_cl (n k : Nat) (h : n < 256) (hk : k < 2147483648) : (Int32.ofNat n < Int32.ofNat k) ↔ n < k := by
  rw [Int32.lt_iff_toInt_lt, Int32.toInt_ofNat_of_lt (by omega), Int32.toInt_ofNat_of_lt (by omega)]; omega
section Sets
variable {S : Nat → Bool} {u0 u1 u2 u3 : Int64} {n : Nat}
theorem Bits.add0 (B : Bits S u0 u1 u2 u3) (h : n < 64) : Bits (ins S n) (u0 ||| sh (Int32.ofNat n)) u1 u2 u3 := fun i hi => by
  obtain ⟨b0, b1, b2, b3⟩ := B i hi
  refine ⟨by rw [own_bor, own_sh n i (by omega) hi, b0, Nat.mod_eq_of_lt h], ?_, ?_, ?_⟩
  · rw [b1]; simp [ins]; omega
  · rw [b2]; simp [ins]; omega
  · rw [b3]; simp [ins]; omega
theorem Bits.add1 (B : Bits S u0 u1 u2 u3) (h0 : ¬ n < 64) (h : n < 128) : Bits (ins S n) u0 (u1 ||| sh (Int32.ofNat n)) u2 u3 := fun i hi => by
  obtain ⟨b0, b1, b2, b3⟩ := B i hi
  refine ⟨?_, ?_, ?_, ?_⟩
  · rw [b0]; simp [ins]; omega
  · rw [own_bor, own_sh n i (by omega) hi, b1]; simp only [ins]; congr 1; exact decide_eq_decide.mpr (by omega)
  · rw [b2]; simp [ins]; omega
  · rw [b3]; simp [ins]; omega
theorem Bits.add2 (B : Bits S u0 u1 u2 u3) (h0 : ¬ n < 128) (h : n < 192) : Bits (ins S n) u0 u1 (u2 ||| sh (Int32.ofNat n)) u3 := fun i hi => by
  obtain ⟨b0, b1, b2, b3⟩ := B i hi
  refine ⟨?_, ?_, ?_, ?_⟩
  · rw [b0]; simp [ins]; omega
  · rw [b1]; simp [ins]; omega
  · rw [own_bor, own_sh n i (by omega) hi, b2]; simp only [ins]; congr 1; exact decide_eq_decide.mpr (by omega)
  · rw [b3]; simp [ins]; omega
theorem Bits.add3 (B : Bits S u0 u1 u2 u3) (h0 : ¬ n < 192) (h : n < 256) : Bits (ins S n) u0 u1 u2 (u3 ||| sh (Int32.ofNat n)) := fun i hi => by
  obtain ⟨b0, b1, b2, b3⟩ := B i hi
  refine ⟨?_, ?_, ?_, ?_⟩
  · rw [b0]; simp [ins]; omega
  · rw [b1]; simp [ins]; omega
  · rw [b2]; simp [ins]; omega
  · rw [own_bor, own_sh n i (by omega) hi, b3]; simp only [ins]; congr 1; exact decide_eq_decide.mpr (by omega)
theorem own_dl {b : Bool} {P : Prop} [Decidable P] (h : ¬ P) : b = (b && !decide P) := by simp [h]
theorem Bits.del0 (B : Bits S u0 u1 u2 u3) (h : n < 64) : Bits (del S n) (u0 &&& (sh (Int32.ofNat n) ^^^ (-1 : Int64))) u1 u2 u3 := fun i hi => by
  obtain ⟨b0, b1, b2, b3⟩ := B i hi
  refine ⟨?_, b1.trans (own_dl (by omega)), b2.trans (own_dl (by omega)), b3.trans (own_dl (by omega))⟩
  rw [own_band, own_bnot _ _ hi, own_sh n i (by omega) hi, b0, Nat.mod_eq_of_lt h]
theorem Bits.del1 (B : Bits S u0 u1 u2 u3) (h0 : ¬ n < 64) (h : n < 128) : Bits (del S n) u0 (u1 &&& (sh (Int32.ofNat n) ^^^ (-1 : Int64))) u2 u3 := fun i hi => by
  obtain ⟨b0, b1, b2, b3⟩ := B i hi
  refine ⟨b0.trans (own_dl (by omega)), ?_, b2.trans (own_dl (by omega)), b3.trans (own_dl (by omega))⟩
  rw [own_band, own_bnot _ _ hi, own_sh n i (by omega) hi, b1]; simp only [del]; congr 2; exact decide_eq_decide.mpr (by omega)
theorem Bits.del2 (B : Bits S u0 u1 u2 u3) (h0 : ¬ n < 128) (h : n < 192) : Bits (del S n) u0 u1 (u2 &&& (sh (Int32.ofNat n) ^^^ (-1 : Int64))) u3 := fun i hi => by
  obtain ⟨b0, b1, b2, b3⟩ := B i hi
  refine ⟨b0.trans (own_dl (by omega)), b1.trans (own_dl (by omega)), ?_, b3.trans (own_dl (by omega))⟩
  rw [own_band, own_bnot _ _ hi, own_sh n i (by omega) hi, b2]; simp only [del]; congr 2; exact decide_eq_decide.mpr (by omega)
theorem Bits.del3 (B : Bits S u0 u1 u2 u3) (h0 : ¬ n < 192) (h : n < 256) : Bits (del S n) u0 u1 u2 (u3 &&& (sh (Int32.ofNat n) ^^^ (-1 : Int64))) := fun i hi => by
  obtain ⟨b0, b1, b2, b3⟩ := B i hi
  refine ⟨b0.trans (own_dl (by omega)), b1.trans (own_dl (by omega)), b2.trans (own_dl (by omega)), ?_⟩
  rw [own_band, own_bnot _ _ hi, own_sh n i (by omega) hi, b3]; simp only [del]; congr 2; exact decide_eq_decide.mpr (by omega)
theorem Bits.emp (B : Bits S u0 u1 u2 u3) : (((u0 ||| u1) ||| u2) ||| u3) = (0 : Int64) ↔ Emp S := by
  rw [own_zero]
  constructor
  · intro h i hi
    have hj : i % 64 < 64 := by omega
    have q := h (i % 64) hj
    obtain ⟨b0, b1, b2, b3⟩ := B (i % 64) hj
    rw [own_bor, own_bor, own_bor, b0, b1, b2, b3] at q
    simp only [Bool.or_eq_false_iff] at q
    rcases (by omega : i = i % 64 ∨ i = 64 + i % 64 ∨ i = 128 + i % 64 ∨ i = 192 + i % 64) with e | e | e | e
    · rw [e]; exact q.1.1.1
    · rw [e]; exact q.1.1.2
    · rw [e]; exact q.1.2
    · rw [e]; exact q.2
  · intro h i hi
    obtain ⟨b0, b1, b2, b3⟩ := B i hi
    rw [own_bor, own_bor, own_bor, b0, b1, b2, b3, h _ (by omega), h _ (by omega), h _ (by omega), h _ (by omega)]; rfl
abbrev wsel (x : Int32) (u0 u1 u2 u3 : Int64) : Int64 := if x < (64 : Int32) then u0 else if x < (128 : Int32) then u1 else if x < (192 : Int32) then u2 else u3
theorem Bits.has (B : Bits S u0 u1 u2 u3) (h : n < 256) : ¬ ((wsel (Int32.ofNat n) u0 u1 u2 u3 &&& sh (Int32.ofNat n)) = (0 : Int64)) ↔ S n = true := by
  have hj : n % 64 < 64 := by omega
  obtain ⟨b0, b1, b2, b3⟩ := B (n % 64) hj
  have key : ∀ w : Int64, bt w (n % 64) = S n → (¬ ((w &&& sh (Int32.ofNat n)) = (0 : Int64)) ↔ S n = true) := by
    intro w hw
    rw [own_zero]
    constructor
    · intro q
      cases hS : S n
      · exfalso; refine q fun i hi => ?_
        rw [own_band, own_sh n i h hi]
        by_cases e : i = n % 64
        · subst e; rw [hw, hS]; rfl
        · simp [e]
      · rfl
    · intro hS q
      have := q (n % 64) hj
      rw [own_band, own_sh n _ h hj, hw, hS] at this
      simp at this
  have c1 : (Int32.ofNat n < (64 : Int32)) ↔ n < 64 := own_cl n 64 h (by decide)
  have c2 : (Int32.ofNat n < (128 : Int32)) ↔ n < 128 := own_cl n 128 h (by decide)
  have c3 : (Int32.ofNat n < (192 : Int32)) ↔ n < 192 := own_cl n 192 h (by decide)
  unfold wsel
  by_cases h1 : n < 64
  · rw [if_pos (c1.mpr h1)]; exact key _ (b0.trans (by congr 1; omega))
  · rw [if_neg (mt c1.mp h1)]
    by_cases h2 : n < 128
    · rw [if_pos (c2.mpr h2)]; exact key _ (b1.trans (by congr 1; omega))
    · rw [if_neg (mt c2.mp h2)]
      by_cases h3 : n < 192
      · rw [if_pos (c3.mpr h3)]; exact key _ (b2.trans (by congr 1; omega))
      · rw [if_neg (mt c3.mp h3)]; exact key _ (b3.trans (by congr 1; omega))
end Sets
theorem own_255 (x : Int32) : ∃ n : Nat, n < 256 ∧ (x &&& (255 : Int32)) = Int32.ofNat n := by
  have h1 := c_mask x 255 8 (by decide) (by decide)
  refine ⟨(x &&& 255).toInt.toNat, by omega, Int32.toInt_inj.mp ?_⟩
  rw [Int32.toInt_ofNat_of_lt (by omega)]; omega
theorem own_inj {a b : Nat} (ha : a < 256) (hb : b < 256) : Int32.ofNat a = Int32.ofNat b ↔ a = b := by
  rw [← Int32.toInt_inj, Int32.toInt_ofNat_of_lt (by omega), Int32.toInt_ofNat_of_lt (by omega)]; omega
theorem ef_rmI (m : MethodId) (x0 : Addr) : entryFrame m #[(.ref x0)] 1 = mkF m 0 #[.val (.ref x0)] [] := by first | (simp [entryFrame, mkF, argsToLocals, Value.category]; done) | rfl
theorem pn_0 : plainName "com/example/touchtree/touchtree/node/PointerSet" = true := by first | (simp [plainName, overriddenIn]; done) | decide +kernel
theorem d1_0 : decode prog_67_method_1_code 0 = .ok (.aload_n 0, 1) := by decide +kernel
theorem d1_1 : decode prog_67_method_1_code 1 = .ok (.invokespecial 1, 3) := by decide +kernel
theorem d1_4 : decode prog_67_method_1_code 4 = .ok (.return_, 1) := by decide +kernel
set_option maxRecDepth 65536 in
set_option maxHeartbeats 40000000 in
theorem rmI (l : Launch) (Z : State) (a0 : Array Value) (hw : ∀ d ∈ tables_1, d.before a0 Z = true) (ws : List Jvm.Cond) (a : Addr)   (h0 : Heap) (n0 : Nat) (Z0 : n0 ≤ h0.size) (E_a : Exa Z h0 a "com/example/touchtree/touchtree/node/PointerSet") :
    Ctr l Z (⟨"com/example/touchtree/touchtree/node/PointerSet", "<init>", "()V"⟩ : MethodName) prog_67_method_1_code 1 none ws ({ frames := 1, cells := 0, slots := 0, locals := 12 } : Room) 0 0 #[(.ref a)] h0 (fun v h L => v = none ∧ L = [] ∧ h = h0) := by
  refine Ctr.mk (plainFor_of_name pn_0) fun p e s m below meth c T0 X0 C e0 => go_cast (ef_rmI m a) ?_
  have N0 := Fr.nil n0
  obtain ⟨hx, hZ, hby, hml, hown, hnm, hret, hlk⟩ := C
  show Go _ _ _ _ _ _ _ T0 (mkF m 0 #[.val (.ref a)] [])
  refine Go.step (fun t k => XS.aloadN X0.here hx rfl (hb hby d1_0) rfl rfl k) ?_
  show Go _ _ _ _ _ _ _ T0 (mkF m 1 #[.val (.ref a)] [(.ref a)])
  obtain ⟨T1, X1, e1, st1⟩ := initO X0 hx hZ hown (hw _ (List.mem_of_getElem? (i := 6) rfl)) (hw _ (List.mem_of_getElem? (i := 7) rfl)) (hw _ (List.mem_of_getElem? (i := 8) rfl)) e0 (g := (mkF m 1 #[.val (.ref a)] [(.ref a)])) rfl (by rw [hml]; rfl) rfl (hb hby d1_1) (by decide) (W := 0) (by show 2 * 0 + _ ≤ _; exact Nat.le_of_eq rfl) (by decide)
  refine Go.step (st1) ?_
  show Go _ _ _ _ _ _ _ T1 (mkF m 4 #[.val (.ref a)] [])
  refine go_ret X1 hx hret hlk (hb hby d1_4) ?_ (by decide) (by decide)
  try rw [e1]
  exact ⟨rfl, rfl, rfl⟩
theorem ef_rmA (m : MethodId) (x0 : Addr) (x1 : Int32) : entryFrame m #[(.ref x0), (.int x1)] 4 = mkF m 0 #[.val (.ref x0), .val (.int x1), .unset, .unset] [] := by first | (simp [entryFrame, mkF, argsToLocals, Value.category]; done) | rfl
theorem d3_0 : decode prog_67_method_4_code 0 = .ok (.lconst 1, 1) := by decide +kernel
theorem d3_1 : decode prog_67_method_4_code 1 = .ok (.iload_n 1, 1) := by decide +kernel
theorem d3_2 : decode prog_67_method_4_code 2 = .ok (.lshl, 1) := by decide +kernel
theorem d3_3 : decode prog_67_method_4_code 3 = .ok (.lstore_n 2, 1) := by decide +kernel
theorem d3_4 : decode prog_67_method_4_code 4 = .ok (.iload_n 1, 1) := by decide +kernel
theorem d3_5 : decode prog_67_method_4_code 5 = .ok (.bipush 64, 2) := by decide +kernel
theorem d3_7 : decode prog_67_method_4_code 7 = .ok (.if_icmp .ge 16, 3) := by decide +kernel
theorem d3_10 : decode prog_67_method_4_code 10 = .ok (.aload_n 0, 1) := by decide +kernel
theorem d3_11 : decode prog_67_method_4_code 11 = .ok (.dup, 1) := by decide +kernel
theorem d3_12 : decode prog_67_method_4_code 12 = .ok (.getfield 13, 3) := by decide +kernel
theorem d3_15 : decode prog_67_method_4_code 15 = .ok (.lload_n 2, 1) := by decide +kernel
theorem d3_16 : decode prog_67_method_4_code 16 = .ok (.lor, 1) := by decide +kernel
theorem d3_17 : decode prog_67_method_4_code 17 = .ok (.putfield 13, 3) := by decide +kernel
theorem d3_20 : decode prog_67_method_4_code 20 = .ok (.goto 53, 3) := by decide +kernel
theorem d3_73 : decode prog_67_method_4_code 73 = .ok (.return_, 1) := by decide +kernel
theorem d3_23 : decode prog_67_method_4_code 23 = .ok (.iload_n 1, 1) := by decide +kernel
theorem d3_24 : decode prog_67_method_4_code 24 = .ok (.sipush 128, 3) := by decide +kernel
theorem d3_27 : decode prog_67_method_4_code 27 = .ok (.if_icmp .ge 16, 3) := by decide +kernel
theorem d3_30 : decode prog_67_method_4_code 30 = .ok (.aload_n 0, 1) := by decide +kernel
theorem d3_31 : decode prog_67_method_4_code 31 = .ok (.dup, 1) := by decide +kernel
theorem d3_32 : decode prog_67_method_4_code 32 = .ok (.getfield 17, 3) := by decide +kernel
theorem d3_35 : decode prog_67_method_4_code 35 = .ok (.lload_n 2, 1) := by decide +kernel
theorem d3_36 : decode prog_67_method_4_code 36 = .ok (.lor, 1) := by decide +kernel
theorem d3_37 : decode prog_67_method_4_code 37 = .ok (.putfield 17, 3) := by decide +kernel
theorem d3_40 : decode prog_67_method_4_code 40 = .ok (.goto 33, 3) := by decide +kernel
theorem d3_43 : decode prog_67_method_4_code 43 = .ok (.iload_n 1, 1) := by decide +kernel
theorem d3_44 : decode prog_67_method_4_code 44 = .ok (.sipush 192, 3) := by decide +kernel
theorem d3_47 : decode prog_67_method_4_code 47 = .ok (.if_icmp .ge 16, 3) := by decide +kernel
theorem d3_50 : decode prog_67_method_4_code 50 = .ok (.aload_n 0, 1) := by decide +kernel
theorem d3_51 : decode prog_67_method_4_code 51 = .ok (.dup, 1) := by decide +kernel
theorem d3_52 : decode prog_67_method_4_code 52 = .ok (.getfield 20, 3) := by decide +kernel
theorem d3_55 : decode prog_67_method_4_code 55 = .ok (.lload_n 2, 1) := by decide +kernel
theorem d3_56 : decode prog_67_method_4_code 56 = .ok (.lor, 1) := by decide +kernel
theorem d3_57 : decode prog_67_method_4_code 57 = .ok (.putfield 20, 3) := by decide +kernel
theorem d3_60 : decode prog_67_method_4_code 60 = .ok (.goto 13, 3) := by decide +kernel
theorem d3_63 : decode prog_67_method_4_code 63 = .ok (.aload_n 0, 1) := by decide +kernel
theorem d3_64 : decode prog_67_method_4_code 64 = .ok (.dup, 1) := by decide +kernel
theorem d3_65 : decode prog_67_method_4_code 65 = .ok (.getfield 23, 3) := by decide +kernel
theorem d3_68 : decode prog_67_method_4_code 68 = .ok (.lload_n 2, 1) := by decide +kernel
theorem d3_69 : decode prog_67_method_4_code 69 = .ok (.lor, 1) := by decide +kernel
theorem d3_70 : decode prog_67_method_4_code 70 = .ok (.putfield 23, 3) := by decide +kernel
set_option maxRecDepth 65536 in
set_option maxHeartbeats 40000000 in
theorem rmA (l : Launch) (Z : State) (a0 : Array Value) (hw : ∀ d ∈ tables_1, d.before a0 Z = true) (ws : List Jvm.Cond) (a : Addr) (n : Nat) (u0 u1 u2 u3 : Int64) (S : Nat → Bool) (h0 : Heap) (n0 : Nat) (Z0 : n0 ≤ h0.size) (hn : n < 256) (hB : Bits S u0 u1 u2 u3) (E_a : Exa Z h0 a "com/example/touchtree/touchtree/node/PointerSet") (F_0 : Fld Z h0 a "com/example/touchtree/touchtree/node/PointerSet" "bits0" "J" (.long u0)) (F_1 : Fld Z h0 a "com/example/touchtree/touchtree/node/PointerSet" "bits1" "J" (.long u1)) (F_2 : Fld Z h0 a "com/example/touchtree/touchtree/node/PointerSet" "bits2" "J" (.long u2)) (F_3 : Fld Z h0 a "com/example/touchtree/touchtree/node/PointerSet" "bits3" "J" (.long u3)) (g_a : n0 ≤ a) :
    Ctr l Z (⟨"com/example/touchtree/touchtree/node/PointerSet", "add", "(I)V"⟩ : MethodName) prog_67_method_4_code 4 none ws ({ frames := 0, cells := 0, slots := 0, locals := 0 } : Room) 0 0 #[(.ref a), (.int (Int32.ofNat n))] h0 (fun v h L => v = none ∧ Fr n0 L ∧ Keep h0 h [a] ∧ Exa Z h a "com/example/touchtree/touchtree/node/PointerSet" ∧ ∃ v0 v1 v2 v3 : Int64, Fld Z h a "com/example/touchtree/touchtree/node/PointerSet" "bits0" "J" (.long v0) ∧ Fld Z h a "com/example/touchtree/touchtree/node/PointerSet" "bits1" "J" (.long v1) ∧ Fld Z h a "com/example/touchtree/touchtree/node/PointerSet" "bits2" "J" (.long v2) ∧ Fld Z h a "com/example/touchtree/touchtree/node/PointerSet" "bits3" "J" (.long v3) ∧ Bits (ins S n) v0 v1 v2 v3) := by
  refine Ctr.mk (plainFor_of_name pn_0) fun p e s m below meth c T0 X0 C e0 => go_cast (ef_rmA m a (Int32.ofNat n)) ?_
  have N0 := Fr.nil n0
  obtain ⟨hx, hZ, hby, hml, hown, hnm, hret, hlk⟩ := C
  obtain ⟨hI, eI⟩ : ∃ z, z = h0 := ⟨_, rfl⟩
  have K0 : Keep hI h0 [a] := by rw [eI]; exact Keep.refl _ _
  show Go _ _ _ _ _ _ _ T0 (mkF m 0 #[.val (.ref a), .val (.int (Int32.ofNat n)), .unset, .unset] [])
  refine Go.step (fun t k => XS.lconst X0.here hx rfl (hb hby d3_0) k) ?_
  show Go _ _ _ _ _ _ _ T0 (mkF m 1 #[.val (.ref a), .val (.int (Int32.ofNat n)), .unset, .unset] [(.long (1 : Int64))])
  refine Go.step (fun t k => XS.iloadN X0.here hx rfl (hb hby d3_1) rfl k) ?_
  show Go _ _ _ _ _ _ _ T0 (mkF m 2 #[.val (.ref a), .val (.int (Int32.ofNat n)), .unset, .unset] [(.int (Int32.ofNat n)), (.long (1 : Int64))])
  refine Go.step (fun t k => XS.lshl X0.here hx rfl (hb hby d3_2) rfl k) ?_
  show Go _ _ _ _ _ _ _ T0 (mkF m 3 #[.val (.ref a), .val (.int (Int32.ofNat n)), .unset, .unset] [(.long ((1 : Int64) <<< ((Int32.ofNat n) &&& 0x3f).toInt64))])
  refine Go.step (fun t k => XS.lstoreN X0.here hx rfl (hb hby d3_3) rfl (l' := #[.val (.ref a), .val (.int (Int32.ofNat n)), .val (.long ((1 : Int64) <<< ((Int32.ofNat n) &&& 0x3f).toInt64)), .second]) rfl k) ?_
  show Go _ _ _ _ _ _ _ T0 (mkF m 4 #[.val (.ref a), .val (.int (Int32.ofNat n)), .val (.long ((1 : Int64) <<< ((Int32.ofNat n) &&& 0x3f).toInt64)), .second] [])
  refine Go.step (fun t k => XS.iloadN X0.here hx rfl (hb hby d3_4) rfl k) ?_
  show Go _ _ _ _ _ _ _ T0 (mkF m 5 #[.val (.ref a), .val (.int (Int32.ofNat n)), .val (.long ((1 : Int64) <<< ((Int32.ofNat n) &&& 0x3f).toInt64)), .second] [(.int (Int32.ofNat n))])
  refine Go.step (fun t k => XS.bipush X0.here hx rfl (hb hby d3_5) k) ?_
  show Go _ _ _ _ _ _ _ T0 (mkF m 7 #[.val (.ref a), .val (.int (Int32.ofNat n)), .val (.long ((1 : Int64) <<< ((Int32.ofNat n) &&& 0x3f).toInt64)), .second] [(.int (64 : Int32)), (.int (Int32.ofNat n))])
  by_cases c7_1 : (Int32.ofNat n) < (64 : Int32)
  · refine Go.step (fun t k => XS.icmpNo X0.here hx rfl (hb hby d3_7) rfl (tlt c7_1).2.1 k) ?_
    show Go _ _ _ _ _ _ _ T0 (mkF m 10 #[.val (.ref a), .val (.int (Int32.ofNat n)), .val (.long ((1 : Int64) <<< ((Int32.ofNat n) &&& 0x3f).toInt64)), .second] [])
    refine Go.step (fun t k => XS.aloadN X0.here hx rfl (hb hby d3_10) rfl rfl k) ?_
    show Go _ _ _ _ _ _ _ T0 (mkF m 11 #[.val (.ref a), .val (.int (Int32.ofNat n)), .val (.long ((1 : Int64) <<< ((Int32.ofNat n) &&& 0x3f).toInt64)), .second] [(.ref a)])
    refine Go.step (fun t k => XS.dup X0.here hx rfl (hb hby d3_11) rfl rfl k) ?_
    show Go _ _ _ _ _ _ _ T0 (mkF m 12 #[.val (.ref a), .val (.int (Int32.ofNat n)), .val (.long ((1 : Int64) <<< ((Int32.ofNat n) &&& 0x3f).toInt64)), .second] [(.ref a), (.ref a)])
    obtain ⟨T2, X2, e2, st2⟩ := getF X0 hx hZ hown (host := "") (Or.inl (hw _ (List.mem_of_getElem? (i := 14) rfl))) Via.refl e0 F_0 (g := (mkF m 12 #[.val (.ref a), .val (.int (Int32.ofNat n)), .val (.long ((1 : Int64) <<< ((Int32.ofNat n) &&& 0x3f).toInt64)), .second] [(.ref a), (.ref a)])) rfl rfl (hb hby d3_12)
    refine Go.step (st2) ?_
    show Go _ _ _ _ _ _ _ T2 (mkF m 15 #[.val (.ref a), .val (.int (Int32.ofNat n)), .val (.long ((1 : Int64) <<< ((Int32.ofNat n) &&& 0x3f).toInt64)), .second] [(.long u0), (.ref a)])
    refine Go.step (fun t k => XS.lloadN X2.here hx rfl (hb hby d3_15) rfl k) ?_
    show Go _ _ _ _ _ _ _ T2 (mkF m 16 #[.val (.ref a), .val (.int (Int32.ofNat n)), .val (.long ((1 : Int64) <<< ((Int32.ofNat n) &&& 0x3f).toInt64)), .second] [(.long ((1 : Int64) <<< ((Int32.ofNat n) &&& 0x3f).toInt64)), (.long u0), (.ref a)])
    refine Go.step (fun t k => XS.lor X2.here hx rfl (hb hby d3_16) rfl k) ?_
    show Go _ _ _ _ _ _ _ T2 (mkF m 17 #[.val (.ref a), .val (.int (Int32.ofNat n)), .val (.long ((1 : Int64) <<< ((Int32.ofNat n) &&& 0x3f).toInt64)), .second] [(.long (u0 ||| ((1 : Int64) <<< ((Int32.ofNat n) &&& 0x3f).toInt64))), (.ref a)])
    obtain ⟨T3, h3, X3, e3, W3, st3⟩ := putF X2 hx hZ hown (host := "") (Or.inl (hw _ (List.mem_of_getElem? (i := 14) rfl))) Via.refl e2 F_0 E_a (Or.inl (hw _ (List.mem_of_getElem? (i := 15) rfl))) (hw _ (List.mem_of_getElem? (i := 1) rfl)) (ty := .long) (by decide) rfl rfl (g := (mkF m 17 #[.val (.ref a), .val (.int (Int32.ofNat n)), .val (.long ((1 : Int64) <<< ((Int32.ofNat n) &&& 0x3f).toInt64)), .second] [(.long (u0 ||| ((1 : Int64) <<< ((Int32.ofNat n) &&& 0x3f).toInt64))), (.ref a)])) rfl rfl (hb hby d3_17)
    have F3 := Fld.same W3 F_0
    have N3 := Fr.snoc X3 N0 g_a
    have Z3 : n0 ≤ h3.size := Nat.le_trans Z0 (Keep.of_wr W3).1
    have K3 : Keep hI h3 [a] := K0.wr W3 (Or.inl (List.mem_of_getElem? (i := 0) rfl))
    refine Go.step (st3) ?_
    show Go _ _ _ _ _ _ _ T3 (mkF m 20 #[.val (.ref a), .val (.int (Int32.ofNat n)), .val (.long ((1 : Int64) <<< ((Int32.ofNat n) &&& 0x3f).toInt64)), .second] [])
    refine Go.step (fun t k => XS.goto X3.here hx rfl (pc0 := 20) (pc' := 73) rfl (hb hby d3_20) (by decide) (by decide) k) ?_
    show Go _ _ _ _ _ _ _ T3 (mkF m 73 #[.val (.ref a), .val (.int (Int32.ofNat n)), .val (.long ((1 : Int64) <<< ((Int32.ofNat n) &&& 0x3f).toInt64)), .second] [])
    have f4 := (Exa.wr W3 E_a)
    have f5 := (Fld.other W3 F_1 (Or.inr (slot_ne (Or.inl (hw _ (List.mem_of_getElem? (i := 37) rfl))) (Or.inl (hw _ (List.mem_of_getElem? (i := 15) rfl))) (by decide) (t := .long) (t' := .long) (by decide) (by decide))))
    have f6 := (Fld.other W3 F_2 (Or.inr (slot_ne (Or.inl (hw _ (List.mem_of_getElem? (i := 39) rfl))) (Or.inl (hw _ (List.mem_of_getElem? (i := 15) rfl))) (by decide) (t := .long) (t' := .long) (by decide) (by decide))))
    have f7 := (Fld.other W3 F_3 (Or.inr (slot_ne (Or.inl (hw _ (List.mem_of_getElem? (i := 41) rfl))) (Or.inl (hw _ (List.mem_of_getElem? (i := 15) rfl))) (by decide) (t := .long) (t' := .long) (by decide) (by decide))))
    refine go_ret X3 hx hret hlk (hb hby d3_73) ?_ (by decide) (by decide)
    try rw [e3]
    exact ⟨rfl, N3, eI ▸ K3, f4, _, _, _, _, F3, f5, f6, f7, hB.add0 ((own_cl n 64 hn (by decide)).mp c7_1)⟩
  · refine Go.step (fun t k => XS.icmpYes X0.here hx rfl (pc0 := 7) (pc' := 23) rfl (hb hby d3_7) rfl (flt c7_1).2.1 (by decide) (by decide) k) ?_
    show Go _ _ _ _ _ _ _ T0 (mkF m 23 #[.val (.ref a), .val (.int (Int32.ofNat n)), .val (.long ((1 : Int64) <<< ((Int32.ofNat n) &&& 0x3f).toInt64)), .second] [])
    refine Go.step (fun t k => XS.iloadN X0.here hx rfl (hb hby d3_23) rfl k) ?_
    show Go _ _ _ _ _ _ _ T0 (mkF m 24 #[.val (.ref a), .val (.int (Int32.ofNat n)), .val (.long ((1 : Int64) <<< ((Int32.ofNat n) &&& 0x3f).toInt64)), .second] [(.int (Int32.ofNat n))])
    refine Go.step (fun t k => XS.sipush X0.here hx rfl (hb hby d3_24) k) ?_
    show Go _ _ _ _ _ _ _ T0 (mkF m 27 #[.val (.ref a), .val (.int (Int32.ofNat n)), .val (.long ((1 : Int64) <<< ((Int32.ofNat n) &&& 0x3f).toInt64)), .second] [(.int (128 : Int32)), (.int (Int32.ofNat n))])
    by_cases c27_8 : (Int32.ofNat n) < (128 : Int32)
    · refine Go.step (fun t k => XS.icmpNo X0.here hx rfl (hb hby d3_27) rfl (tlt c27_8).2.1 k) ?_
      show Go _ _ _ _ _ _ _ T0 (mkF m 30 #[.val (.ref a), .val (.int (Int32.ofNat n)), .val (.long ((1 : Int64) <<< ((Int32.ofNat n) &&& 0x3f).toInt64)), .second] [])
      refine Go.step (fun t k => XS.aloadN X0.here hx rfl (hb hby d3_30) rfl rfl k) ?_
      show Go _ _ _ _ _ _ _ T0 (mkF m 31 #[.val (.ref a), .val (.int (Int32.ofNat n)), .val (.long ((1 : Int64) <<< ((Int32.ofNat n) &&& 0x3f).toInt64)), .second] [(.ref a)])
      refine Go.step (fun t k => XS.dup X0.here hx rfl (hb hby d3_31) rfl rfl k) ?_
      show Go _ _ _ _ _ _ _ T0 (mkF m 32 #[.val (.ref a), .val (.int (Int32.ofNat n)), .val (.long ((1 : Int64) <<< ((Int32.ofNat n) &&& 0x3f).toInt64)), .second] [(.ref a), (.ref a)])
      obtain ⟨T9, X9, e9, st9⟩ := getF X0 hx hZ hown (host := "") (Or.inl (hw _ (List.mem_of_getElem? (i := 36) rfl))) Via.refl e0 F_1 (g := (mkF m 32 #[.val (.ref a), .val (.int (Int32.ofNat n)), .val (.long ((1 : Int64) <<< ((Int32.ofNat n) &&& 0x3f).toInt64)), .second] [(.ref a), (.ref a)])) rfl rfl (hb hby d3_32)
      refine Go.step (st9) ?_
      show Go _ _ _ _ _ _ _ T9 (mkF m 35 #[.val (.ref a), .val (.int (Int32.ofNat n)), .val (.long ((1 : Int64) <<< ((Int32.ofNat n) &&& 0x3f).toInt64)), .second] [(.long u1), (.ref a)])
      refine Go.step (fun t k => XS.lloadN X9.here hx rfl (hb hby d3_35) rfl k) ?_
      show Go _ _ _ _ _ _ _ T9 (mkF m 36 #[.val (.ref a), .val (.int (Int32.ofNat n)), .val (.long ((1 : Int64) <<< ((Int32.ofNat n) &&& 0x3f).toInt64)), .second] [(.long ((1 : Int64) <<< ((Int32.ofNat n) &&& 0x3f).toInt64)), (.long u1), (.ref a)])
      refine Go.step (fun t k => XS.lor X9.here hx rfl (hb hby d3_36) rfl k) ?_
      show Go _ _ _ _ _ _ _ T9 (mkF m 37 #[.val (.ref a), .val (.int (Int32.ofNat n)), .val (.long ((1 : Int64) <<< ((Int32.ofNat n) &&& 0x3f).toInt64)), .second] [(.long (u1 ||| ((1 : Int64) <<< ((Int32.ofNat n) &&& 0x3f).toInt64))), (.ref a)])
      obtain ⟨T10, h10, X10, e10, W10, st10⟩ := putF X9 hx hZ hown (host := "") (Or.inl (hw _ (List.mem_of_getElem? (i := 36) rfl))) Via.refl e9 F_1 E_a (Or.inl (hw _ (List.mem_of_getElem? (i := 37) rfl))) (hw _ (List.mem_of_getElem? (i := 1) rfl)) (ty := .long) (by decide) rfl rfl (g := (mkF m 37 #[.val (.ref a), .val (.int (Int32.ofNat n)), .val (.long ((1 : Int64) <<< ((Int32.ofNat n) &&& 0x3f).toInt64)), .second] [(.long (u1 ||| ((1 : Int64) <<< ((Int32.ofNat n) &&& 0x3f).toInt64))), (.ref a)])) rfl rfl (hb hby d3_37)
      have F10 := Fld.same W10 F_1
      have N10 := Fr.snoc X10 N0 g_a
      have Z10 : n0 ≤ h10.size := Nat.le_trans Z0 (Keep.of_wr W10).1
      have K10 : Keep hI h10 [a] := K0.wr W10 (Or.inl (List.mem_of_getElem? (i := 0) rfl))
      refine Go.step (st10) ?_
      show Go _ _ _ _ _ _ _ T10 (mkF m 40 #[.val (.ref a), .val (.int (Int32.ofNat n)), .val (.long ((1 : Int64) <<< ((Int32.ofNat n) &&& 0x3f).toInt64)), .second] [])
      refine Go.step (fun t k => XS.goto X10.here hx rfl (pc0 := 40) (pc' := 73) rfl (hb hby d3_40) (by decide) (by decide) k) ?_
      show Go _ _ _ _ _ _ _ T10 (mkF m 73 #[.val (.ref a), .val (.int (Int32.ofNat n)), .val (.long ((1 : Int64) <<< ((Int32.ofNat n) &&& 0x3f).toInt64)), .second] [])
      have f11 := (Exa.wr W10 E_a)
      have f12 := (Fld.other W10 F_0 (Or.inr (slot_ne (Or.inl (hw _ (List.mem_of_getElem? (i := 15) rfl))) (Or.inl (hw _ (List.mem_of_getElem? (i := 37) rfl))) (by decide) (t := .long) (t' := .long) (by decide) (by decide))))
      have f13 := (Fld.other W10 F_2 (Or.inr (slot_ne (Or.inl (hw _ (List.mem_of_getElem? (i := 39) rfl))) (Or.inl (hw _ (List.mem_of_getElem? (i := 37) rfl))) (by decide) (t := .long) (t' := .long) (by decide) (by decide))))
      have f14 := (Fld.other W10 F_3 (Or.inr (slot_ne (Or.inl (hw _ (List.mem_of_getElem? (i := 41) rfl))) (Or.inl (hw _ (List.mem_of_getElem? (i := 37) rfl))) (by decide) (t := .long) (t' := .long) (by decide) (by decide))))
      refine go_ret X10 hx hret hlk (hb hby d3_73) ?_ (by decide) (by decide)
      try rw [e10]
      exact ⟨rfl, N10, eI ▸ K10, f11, _, _, _, _, f12, F10, f13, f14, hB.add1 (mt (own_cl n 64 hn (by decide)).mpr c7_1) ((own_cl n 128 hn (by decide)).mp c27_8)⟩
    · refine Go.step (fun t k => XS.icmpYes X0.here hx rfl (pc0 := 27) (pc' := 43) rfl (hb hby d3_27) rfl (flt c27_8).2.1 (by decide) (by decide) k) ?_
      show Go _ _ _ _ _ _ _ T0 (mkF m 43 #[.val (.ref a), .val (.int (Int32.ofNat n)), .val (.long ((1 : Int64) <<< ((Int32.ofNat n) &&& 0x3f).toInt64)), .second] [])
      refine Go.step (fun t k => XS.iloadN X0.here hx rfl (hb hby d3_43) rfl k) ?_
      show Go _ _ _ _ _ _ _ T0 (mkF m 44 #[.val (.ref a), .val (.int (Int32.ofNat n)), .val (.long ((1 : Int64) <<< ((Int32.ofNat n) &&& 0x3f).toInt64)), .second] [(.int (Int32.ofNat n))])
      refine Go.step (fun t k => XS.sipush X0.here hx rfl (hb hby d3_44) k) ?_
      show Go _ _ _ _ _ _ _ T0 (mkF m 47 #[.val (.ref a), .val (.int (Int32.ofNat n)), .val (.long ((1 : Int64) <<< ((Int32.ofNat n) &&& 0x3f).toInt64)), .second] [(.int (192 : Int32)), (.int (Int32.ofNat n))])
      by_cases c47_15 : (Int32.ofNat n) < (192 : Int32)
      · refine Go.step (fun t k => XS.icmpNo X0.here hx rfl (hb hby d3_47) rfl (tlt c47_15).2.1 k) ?_
        show Go _ _ _ _ _ _ _ T0 (mkF m 50 #[.val (.ref a), .val (.int (Int32.ofNat n)), .val (.long ((1 : Int64) <<< ((Int32.ofNat n) &&& 0x3f).toInt64)), .second] [])
        refine Go.step (fun t k => XS.aloadN X0.here hx rfl (hb hby d3_50) rfl rfl k) ?_
        show Go _ _ _ _ _ _ _ T0 (mkF m 51 #[.val (.ref a), .val (.int (Int32.ofNat n)), .val (.long ((1 : Int64) <<< ((Int32.ofNat n) &&& 0x3f).toInt64)), .second] [(.ref a)])
        refine Go.step (fun t k => XS.dup X0.here hx rfl (hb hby d3_51) rfl rfl k) ?_
        show Go _ _ _ _ _ _ _ T0 (mkF m 52 #[.val (.ref a), .val (.int (Int32.ofNat n)), .val (.long ((1 : Int64) <<< ((Int32.ofNat n) &&& 0x3f).toInt64)), .second] [(.ref a), (.ref a)])
        obtain ⟨T16, X16, e16, st16⟩ := getF X0 hx hZ hown (host := "") (Or.inl (hw _ (List.mem_of_getElem? (i := 38) rfl))) Via.refl e0 F_2 (g := (mkF m 52 #[.val (.ref a), .val (.int (Int32.ofNat n)), .val (.long ((1 : Int64) <<< ((Int32.ofNat n) &&& 0x3f).toInt64)), .second] [(.ref a), (.ref a)])) rfl rfl (hb hby d3_52)
        refine Go.step (st16) ?_
        show Go _ _ _ _ _ _ _ T16 (mkF m 55 #[.val (.ref a), .val (.int (Int32.ofNat n)), .val (.long ((1 : Int64) <<< ((Int32.ofNat n) &&& 0x3f).toInt64)), .second] [(.long u2), (.ref a)])
        refine Go.step (fun t k => XS.lloadN X16.here hx rfl (hb hby d3_55) rfl k) ?_
        show Go _ _ _ _ _ _ _ T16 (mkF m 56 #[.val (.ref a), .val (.int (Int32.ofNat n)), .val (.long ((1 : Int64) <<< ((Int32.ofNat n) &&& 0x3f).toInt64)), .second] [(.long ((1 : Int64) <<< ((Int32.ofNat n) &&& 0x3f).toInt64)), (.long u2), (.ref a)])
        refine Go.step (fun t k => XS.lor X16.here hx rfl (hb hby d3_56) rfl k) ?_
        show Go _ _ _ _ _ _ _ T16 (mkF m 57 #[.val (.ref a), .val (.int (Int32.ofNat n)), .val (.long ((1 : Int64) <<< ((Int32.ofNat n) &&& 0x3f).toInt64)), .second] [(.long (u2 ||| ((1 : Int64) <<< ((Int32.ofNat n) &&& 0x3f).toInt64))), (.ref a)])
        obtain ⟨T17, h17, X17, e17, W17, st17⟩ := putF X16 hx hZ hown (host := "") (Or.inl (hw _ (List.mem_of_getElem? (i := 38) rfl))) Via.refl e16 F_2 E_a (Or.inl (hw _ (List.mem_of_getElem? (i := 39) rfl))) (hw _ (List.mem_of_getElem? (i := 1) rfl)) (ty := .long) (by decide) rfl rfl (g := (mkF m 57 #[.val (.ref a), .val (.int (Int32.ofNat n)), .val (.long ((1 : Int64) <<< ((Int32.ofNat n) &&& 0x3f).toInt64)), .second] [(.long (u2 ||| ((1 : Int64) <<< ((Int32.ofNat n) &&& 0x3f).toInt64))), (.ref a)])) rfl rfl (hb hby d3_57)
        have F17 := Fld.same W17 F_2
        have N17 := Fr.snoc X17 N0 g_a
        have Z17 : n0 ≤ h17.size := Nat.le_trans Z0 (Keep.of_wr W17).1
        have K17 : Keep hI h17 [a] := K0.wr W17 (Or.inl (List.mem_of_getElem? (i := 0) rfl))
        refine Go.step (st17) ?_
        show Go _ _ _ _ _ _ _ T17 (mkF m 60 #[.val (.ref a), .val (.int (Int32.ofNat n)), .val (.long ((1 : Int64) <<< ((Int32.ofNat n) &&& 0x3f).toInt64)), .second] [])
        refine Go.step (fun t k => XS.goto X17.here hx rfl (pc0 := 60) (pc' := 73) rfl (hb hby d3_60) (by decide) (by decide) k) ?_
        show Go _ _ _ _ _ _ _ T17 (mkF m 73 #[.val (.ref a), .val (.int (Int32.ofNat n)), .val (.long ((1 : Int64) <<< ((Int32.ofNat n) &&& 0x3f).toInt64)), .second] [])
        have f18 := (Exa.wr W17 E_a)
        have f19 := (Fld.other W17 F_0 (Or.inr (slot_ne (Or.inl (hw _ (List.mem_of_getElem? (i := 15) rfl))) (Or.inl (hw _ (List.mem_of_getElem? (i := 39) rfl))) (by decide) (t := .long) (t' := .long) (by decide) (by decide))))
        have f20 := (Fld.other W17 F_1 (Or.inr (slot_ne (Or.inl (hw _ (List.mem_of_getElem? (i := 37) rfl))) (Or.inl (hw _ (List.mem_of_getElem? (i := 39) rfl))) (by decide) (t := .long) (t' := .long) (by decide) (by decide))))
        have f21 := (Fld.other W17 F_3 (Or.inr (slot_ne (Or.inl (hw _ (List.mem_of_getElem? (i := 41) rfl))) (Or.inl (hw _ (List.mem_of_getElem? (i := 39) rfl))) (by decide) (t := .long) (t' := .long) (by decide) (by decide))))
        refine go_ret X17 hx hret hlk (hb hby d3_73) ?_ (by decide) (by decide)
        try rw [e17]
        exact ⟨rfl, N17, eI ▸ K17, f18, _, _, _, _, f19, f20, F17, f21, hB.add2 (mt (own_cl n 128 hn (by decide)).mpr c27_8) ((own_cl n 192 hn (by decide)).mp c47_15)⟩
      · refine Go.step (fun t k => XS.icmpYes X0.here hx rfl (pc0 := 47) (pc' := 63) rfl (hb hby d3_47) rfl (flt c47_15).2.1 (by decide) (by decide) k) ?_
        show Go _ _ _ _ _ _ _ T0 (mkF m 63 #[.val (.ref a), .val (.int (Int32.ofNat n)), .val (.long ((1 : Int64) <<< ((Int32.ofNat n) &&& 0x3f).toInt64)), .second] [])
        refine Go.step (fun t k => XS.aloadN X0.here hx rfl (hb hby d3_63) rfl rfl k) ?_
        show Go _ _ _ _ _ _ _ T0 (mkF m 64 #[.val (.ref a), .val (.int (Int32.ofNat n)), .val (.long ((1 : Int64) <<< ((Int32.ofNat n) &&& 0x3f).toInt64)), .second] [(.ref a)])
        refine Go.step (fun t k => XS.dup X0.here hx rfl (hb hby d3_64) rfl rfl k) ?_
        show Go _ _ _ _ _ _ _ T0 (mkF m 65 #[.val (.ref a), .val (.int (Int32.ofNat n)), .val (.long ((1 : Int64) <<< ((Int32.ofNat n) &&& 0x3f).toInt64)), .second] [(.ref a), (.ref a)])
        obtain ⟨T22, X22, e22, st22⟩ := getF X0 hx hZ hown (host := "") (Or.inl (hw _ (List.mem_of_getElem? (i := 40) rfl))) Via.refl e0 F_3 (g := (mkF m 65 #[.val (.ref a), .val (.int (Int32.ofNat n)), .val (.long ((1 : Int64) <<< ((Int32.ofNat n) &&& 0x3f).toInt64)), .second] [(.ref a), (.ref a)])) rfl rfl (hb hby d3_65)
        refine Go.step (st22) ?_
        show Go _ _ _ _ _ _ _ T22 (mkF m 68 #[.val (.ref a), .val (.int (Int32.ofNat n)), .val (.long ((1 : Int64) <<< ((Int32.ofNat n) &&& 0x3f).toInt64)), .second] [(.long u3), (.ref a)])
        refine Go.step (fun t k => XS.lloadN X22.here hx rfl (hb hby d3_68) rfl k) ?_
        show Go _ _ _ _ _ _ _ T22 (mkF m 69 #[.val (.ref a), .val (.int (Int32.ofNat n)), .val (.long ((1 : Int64) <<< ((Int32.ofNat n) &&& 0x3f).toInt64)), .second] [(.long ((1 : Int64) <<< ((Int32.ofNat n) &&& 0x3f).toInt64)), (.long u3), (.ref a)])
        refine Go.step (fun t k => XS.lor X22.here hx rfl (hb hby d3_69) rfl k) ?_
        show Go _ _ _ _ _ _ _ T22 (mkF m 70 #[.val (.ref a), .val (.int (Int32.ofNat n)), .val (.long ((1 : Int64) <<< ((Int32.ofNat n) &&& 0x3f).toInt64)), .second] [(.long (u3 ||| ((1 : Int64) <<< ((Int32.ofNat n) &&& 0x3f).toInt64))), (.ref a)])
        obtain ⟨T23, h23, X23, e23, W23, st23⟩ := putF X22 hx hZ hown (host := "") (Or.inl (hw _ (List.mem_of_getElem? (i := 40) rfl))) Via.refl e22 F_3 E_a (Or.inl (hw _ (List.mem_of_getElem? (i := 41) rfl))) (hw _ (List.mem_of_getElem? (i := 1) rfl)) (ty := .long) (by decide) rfl rfl (g := (mkF m 70 #[.val (.ref a), .val (.int (Int32.ofNat n)), .val (.long ((1 : Int64) <<< ((Int32.ofNat n) &&& 0x3f).toInt64)), .second] [(.long (u3 ||| ((1 : Int64) <<< ((Int32.ofNat n) &&& 0x3f).toInt64))), (.ref a)])) rfl rfl (hb hby d3_70)
        have F23 := Fld.same W23 F_3
        have N23 := Fr.snoc X23 N0 g_a
        have Z23 : n0 ≤ h23.size := Nat.le_trans Z0 (Keep.of_wr W23).1
        have K23 : Keep hI h23 [a] := K0.wr W23 (Or.inl (List.mem_of_getElem? (i := 0) rfl))
        refine Go.step (st23) ?_
        show Go _ _ _ _ _ _ _ T23 (mkF m 73 #[.val (.ref a), .val (.int (Int32.ofNat n)), .val (.long ((1 : Int64) <<< ((Int32.ofNat n) &&& 0x3f).toInt64)), .second] [])
        have f24 := (Exa.wr W23 E_a)
        have f25 := (Fld.other W23 F_0 (Or.inr (slot_ne (Or.inl (hw _ (List.mem_of_getElem? (i := 15) rfl))) (Or.inl (hw _ (List.mem_of_getElem? (i := 41) rfl))) (by decide) (t := .long) (t' := .long) (by decide) (by decide))))
        have f26 := (Fld.other W23 F_1 (Or.inr (slot_ne (Or.inl (hw _ (List.mem_of_getElem? (i := 37) rfl))) (Or.inl (hw _ (List.mem_of_getElem? (i := 41) rfl))) (by decide) (t := .long) (t' := .long) (by decide) (by decide))))
        have f27 := (Fld.other W23 F_2 (Or.inr (slot_ne (Or.inl (hw _ (List.mem_of_getElem? (i := 39) rfl))) (Or.inl (hw _ (List.mem_of_getElem? (i := 41) rfl))) (by decide) (t := .long) (t' := .long) (by decide) (by decide))))
        refine go_ret X23 hx hret hlk (hb hby d3_73) ?_ (by decide) (by decide)
        try rw [e23]
        exact ⟨rfl, N23, eI ▸ K23, f24, _, _, _, _, f25, f26, f27, F23, hB.add3 (mt (own_cl n 192 hn (by decide)).mpr c47_15) hn⟩
theorem ef_rmR (m : MethodId) (x0 : Addr) (x1 : Int32) : entryFrame m #[(.ref x0), (.int x1)] 4 = mkF m 0 #[.val (.ref x0), .val (.int x1), .unset, .unset] [] := by first | (simp [entryFrame, mkF, argsToLocals, Value.category]; done) | rfl
theorem d4_0 : decode prog_67_method_5_code 0 = .ok (.lconst 1, 1) := by decide +kernel
theorem d4_1 : decode prog_67_method_5_code 1 = .ok (.iload_n 1, 1) := by decide +kernel
theorem d4_2 : decode prog_67_method_5_code 2 = .ok (.lshl, 1) := by decide +kernel
theorem d4_3 : decode prog_67_method_5_code 3 = .ok (.lstore_n 2, 1) := by decide +kernel
theorem d4_4 : decode prog_67_method_5_code 4 = .ok (.iload_n 1, 1) := by decide +kernel
theorem d4_5 : decode prog_67_method_5_code 5 = .ok (.bipush 64, 2) := by decide +kernel
theorem d4_7 : decode prog_67_method_5_code 7 = .ok (.if_icmp .ge 20, 3) := by decide +kernel
theorem d4_10 : decode prog_67_method_5_code 10 = .ok (.aload_n 0, 1) := by decide +kernel
theorem d4_11 : decode prog_67_method_5_code 11 = .ok (.dup, 1) := by decide +kernel
theorem d4_12 : decode prog_67_method_5_code 12 = .ok (.getfield 13, 3) := by decide +kernel
theorem d4_15 : decode prog_67_method_5_code 15 = .ok (.lload_n 2, 1) := by decide +kernel
theorem d4_16 : decode prog_67_method_5_code 16 = .ok (.ldc2_w 26, 3) := by decide +kernel
theorem d4_19 : decode prog_67_method_5_code 19 = .ok (.lxor, 1) := by decide +kernel
theorem d4_20 : decode prog_67_method_5_code 20 = .ok (.land, 1) := by decide +kernel
theorem d4_21 : decode prog_67_method_5_code 21 = .ok (.putfield 13, 3) := by decide +kernel
theorem d4_24 : decode prog_67_method_5_code 24 = .ok (.goto 65, 3) := by decide +kernel
theorem d4_89 : decode prog_67_method_5_code 89 = .ok (.return_, 1) := by decide +kernel
theorem d4_27 : decode prog_67_method_5_code 27 = .ok (.iload_n 1, 1) := by decide +kernel
theorem d4_28 : decode prog_67_method_5_code 28 = .ok (.sipush 128, 3) := by decide +kernel
theorem d4_31 : decode prog_67_method_5_code 31 = .ok (.if_icmp .ge 20, 3) := by decide +kernel
theorem d4_34 : decode prog_67_method_5_code 34 = .ok (.aload_n 0, 1) := by decide +kernel
theorem d4_35 : decode prog_67_method_5_code 35 = .ok (.dup, 1) := by decide +kernel
theorem d4_36 : decode prog_67_method_5_code 36 = .ok (.getfield 17, 3) := by decide +kernel
theorem d4_39 : decode prog_67_method_5_code 39 = .ok (.lload_n 2, 1) := by decide +kernel
theorem d4_40 : decode prog_67_method_5_code 40 = .ok (.ldc2_w 26, 3) := by decide +kernel
theorem d4_43 : decode prog_67_method_5_code 43 = .ok (.lxor, 1) := by decide +kernel
theorem d4_44 : decode prog_67_method_5_code 44 = .ok (.land, 1) := by decide +kernel
theorem d4_45 : decode prog_67_method_5_code 45 = .ok (.putfield 17, 3) := by decide +kernel
theorem d4_48 : decode prog_67_method_5_code 48 = .ok (.goto 41, 3) := by decide +kernel
theorem d4_51 : decode prog_67_method_5_code 51 = .ok (.iload_n 1, 1) := by decide +kernel
theorem d4_52 : decode prog_67_method_5_code 52 = .ok (.sipush 192, 3) := by decide +kernel
theorem d4_55 : decode prog_67_method_5_code 55 = .ok (.if_icmp .ge 20, 3) := by decide +kernel
theorem d4_58 : decode prog_67_method_5_code 58 = .ok (.aload_n 0, 1) := by decide +kernel
theorem d4_59 : decode prog_67_method_5_code 59 = .ok (.dup, 1) := by decide +kernel
theorem d4_60 : decode prog_67_method_5_code 60 = .ok (.getfield 20, 3) := by decide +kernel
theorem d4_63 : decode prog_67_method_5_code 63 = .ok (.lload_n 2, 1) := by decide +kernel
theorem d4_64 : decode prog_67_method_5_code 64 = .ok (.ldc2_w 26, 3) := by decide +kernel
theorem d4_67 : decode prog_67_method_5_code 67 = .ok (.lxor, 1) := by decide +kernel
theorem d4_68 : decode prog_67_method_5_code 68 = .ok (.land, 1) := by decide +kernel
theorem d4_69 : decode prog_67_method_5_code 69 = .ok (.putfield 20, 3) := by decide +kernel
theorem d4_72 : decode prog_67_method_5_code 72 = .ok (.goto 17, 3) := by decide +kernel
theorem d4_75 : decode prog_67_method_5_code 75 = .ok (.aload_n 0, 1) := by decide +kernel
theorem d4_76 : decode prog_67_method_5_code 76 = .ok (.dup, 1) := by decide +kernel
theorem d4_77 : decode prog_67_method_5_code 77 = .ok (.getfield 23, 3) := by decide +kernel
theorem d4_80 : decode prog_67_method_5_code 80 = .ok (.lload_n 2, 1) := by decide +kernel
theorem d4_81 : decode prog_67_method_5_code 81 = .ok (.ldc2_w 26, 3) := by decide +kernel
theorem d4_84 : decode prog_67_method_5_code 84 = .ok (.lxor, 1) := by decide +kernel
theorem d4_85 : decode prog_67_method_5_code 85 = .ok (.land, 1) := by decide +kernel
theorem d4_86 : decode prog_67_method_5_code 86 = .ok (.putfield 23, 3) := by decide +kernel
set_option maxRecDepth 65536 in
set_option maxHeartbeats 40000000 in
theorem rmR (l : Launch) (Z : State) (a0 : Array Value) (hw : ∀ d ∈ tables_1, d.before a0 Z = true) (ws : List Jvm.Cond) (a : Addr) (n : Nat) (u0 u1 u2 u3 : Int64) (S : Nat → Bool) (h0 : Heap) (n0 : Nat) (Z0 : n0 ≤ h0.size) (hn : n < 256) (hB : Bits S u0 u1 u2 u3) (E_a : Exa Z h0 a "com/example/touchtree/touchtree/node/PointerSet") (F_0 : Fld Z h0 a "com/example/touchtree/touchtree/node/PointerSet" "bits0" "J" (.long u0)) (F_1 : Fld Z h0 a "com/example/touchtree/touchtree/node/PointerSet" "bits1" "J" (.long u1)) (F_2 : Fld Z h0 a "com/example/touchtree/touchtree/node/PointerSet" "bits2" "J" (.long u2)) (F_3 : Fld Z h0 a "com/example/touchtree/touchtree/node/PointerSet" "bits3" "J" (.long u3)) (g_a : n0 ≤ a) :
    Ctr l Z (⟨"com/example/touchtree/touchtree/node/PointerSet", "remove", "(I)V"⟩ : MethodName) prog_67_method_5_code 4 none ws ({ frames := 0, cells := 0, slots := 0, locals := 0 } : Room) 0 0 #[(.ref a), (.int (Int32.ofNat n))] h0 (fun v h L => v = none ∧ Fr n0 L ∧ Keep h0 h [a] ∧ Exa Z h a "com/example/touchtree/touchtree/node/PointerSet" ∧ ∃ v0 v1 v2 v3 : Int64, Fld Z h a "com/example/touchtree/touchtree/node/PointerSet" "bits0" "J" (.long v0) ∧ Fld Z h a "com/example/touchtree/touchtree/node/PointerSet" "bits1" "J" (.long v1) ∧ Fld Z h a "com/example/touchtree/touchtree/node/PointerSet" "bits2" "J" (.long v2) ∧ Fld Z h a "com/example/touchtree/touchtree/node/PointerSet" "bits3" "J" (.long v3) ∧ Bits (del S n) v0 v1 v2 v3) := by
  refine Ctr.mk (plainFor_of_name pn_0) fun p e s m below meth c T0 X0 C e0 => go_cast (ef_rmR m a (Int32.ofNat n)) ?_
  have N0 := Fr.nil n0
  obtain ⟨hx, hZ, hby, hml, hown, hnm, hret, hlk⟩ := C
  obtain ⟨hI, eI⟩ : ∃ z, z = h0 := ⟨_, rfl⟩
  have K0 : Keep hI h0 [a] := by rw [eI]; exact Keep.refl _ _
  show Go _ _ _ _ _ _ _ T0 (mkF m 0 #[.val (.ref a), .val (.int (Int32.ofNat n)), .unset, .unset] [])
  refine Go.step (fun t k => XS.lconst X0.here hx rfl (hb hby d4_0) k) ?_
  show Go _ _ _ _ _ _ _ T0 (mkF m 1 #[.val (.ref a), .val (.int (Int32.ofNat n)), .unset, .unset] [(.long (1 : Int64))])
  refine Go.step (fun t k => XS.iloadN X0.here hx rfl (hb hby d4_1) rfl k) ?_
  show Go _ _ _ _ _ _ _ T0 (mkF m 2 #[.val (.ref a), .val (.int (Int32.ofNat n)), .unset, .unset] [(.int (Int32.ofNat n)), (.long (1 : Int64))])
  refine Go.step (fun t k => XS.lshl X0.here hx rfl (hb hby d4_2) rfl k) ?_
  show Go _ _ _ _ _ _ _ T0 (mkF m 3 #[.val (.ref a), .val (.int (Int32.ofNat n)), .unset, .unset] [(.long ((1 : Int64) <<< ((Int32.ofNat n) &&& 0x3f).toInt64))])
  refine Go.step (fun t k => XS.lstoreN X0.here hx rfl (hb hby d4_3) rfl (l' := #[.val (.ref a), .val (.int (Int32.ofNat n)), .val (.long ((1 : Int64) <<< ((Int32.ofNat n) &&& 0x3f).toInt64)), .second]) rfl k) ?_
  show Go _ _ _ _ _ _ _ T0 (mkF m 4 #[.val (.ref a), .val (.int (Int32.ofNat n)), .val (.long ((1 : Int64) <<< ((Int32.ofNat n) &&& 0x3f).toInt64)), .second] [])
  refine Go.step (fun t k => XS.iloadN X0.here hx rfl (hb hby d4_4) rfl k) ?_
  show Go _ _ _ _ _ _ _ T0 (mkF m 5 #[.val (.ref a), .val (.int (Int32.ofNat n)), .val (.long ((1 : Int64) <<< ((Int32.ofNat n) &&& 0x3f).toInt64)), .second] [(.int (Int32.ofNat n))])
  refine Go.step (fun t k => XS.bipush X0.here hx rfl (hb hby d4_5) k) ?_
  show Go _ _ _ _ _ _ _ T0 (mkF m 7 #[.val (.ref a), .val (.int (Int32.ofNat n)), .val (.long ((1 : Int64) <<< ((Int32.ofNat n) &&& 0x3f).toInt64)), .second] [(.int (64 : Int32)), (.int (Int32.ofNat n))])
  by_cases c7_1 : (Int32.ofNat n) < (64 : Int32)
  · refine Go.step (fun t k => XS.icmpNo X0.here hx rfl (hb hby d4_7) rfl (tlt c7_1).2.1 k) ?_
    show Go _ _ _ _ _ _ _ T0 (mkF m 10 #[.val (.ref a), .val (.int (Int32.ofNat n)), .val (.long ((1 : Int64) <<< ((Int32.ofNat n) &&& 0x3f).toInt64)), .second] [])
    refine Go.step (fun t k => XS.aloadN X0.here hx rfl (hb hby d4_10) rfl rfl k) ?_
    show Go _ _ _ _ _ _ _ T0 (mkF m 11 #[.val (.ref a), .val (.int (Int32.ofNat n)), .val (.long ((1 : Int64) <<< ((Int32.ofNat n) &&& 0x3f).toInt64)), .second] [(.ref a)])
    refine Go.step (fun t k => XS.dup X0.here hx rfl (hb hby d4_11) rfl rfl k) ?_
    show Go _ _ _ _ _ _ _ T0 (mkF m 12 #[.val (.ref a), .val (.int (Int32.ofNat n)), .val (.long ((1 : Int64) <<< ((Int32.ofNat n) &&& 0x3f).toInt64)), .second] [(.ref a), (.ref a)])
    obtain ⟨T2, X2, e2, st2⟩ := getF X0 hx hZ hown (host := "") (Or.inl (hw _ (List.mem_of_getElem? (i := 14) rfl))) Via.refl e0 F_0 (g := (mkF m 12 #[.val (.ref a), .val (.int (Int32.ofNat n)), .val (.long ((1 : Int64) <<< ((Int32.ofNat n) &&& 0x3f).toInt64)), .second] [(.ref a), (.ref a)])) rfl rfl (hb hby d4_12)
    refine Go.step (st2) ?_
    show Go _ _ _ _ _ _ _ T2 (mkF m 15 #[.val (.ref a), .val (.int (Int32.ofNat n)), .val (.long ((1 : Int64) <<< ((Int32.ofNat n) &&& 0x3f).toInt64)), .second] [(.long u0), (.ref a)])
    refine Go.step (fun t k => XS.lloadN X2.here hx rfl (hb hby d4_15) rfl k) ?_
    show Go _ _ _ _ _ _ _ T2 (mkF m 16 #[.val (.ref a), .val (.int (Int32.ofNat n)), .val (.long ((1 : Int64) <<< ((Int32.ofNat n) &&& 0x3f).toInt64)), .second] [(.long ((1 : Int64) <<< ((Int32.ofNat n) &&& 0x3f).toInt64)), (.long u0), (.ref a)])
    refine Go.step (X2.ldc2Long hx hown (mvT hZ (hw _ (List.mem_of_getElem? (i := 21) rfl))) (g := (mkF m 16 #[.val (.ref a), .val (.int (Int32.ofNat n)), .val (.long ((1 : Int64) <<< ((Int32.ofNat n) &&& 0x3f).toInt64)), .second] [(.long ((1 : Int64) <<< ((Int32.ofNat n) &&& 0x3f).toInt64)), (.long u0), (.ref a)])) rfl (hb hby d4_16)) ?_
    show Go _ _ _ _ _ _ _ T2 (mkF m 19 #[.val (.ref a), .val (.int (Int32.ofNat n)), .val (.long ((1 : Int64) <<< ((Int32.ofNat n) &&& 0x3f).toInt64)), .second] [(.long (-1 : Int64)), (.long ((1 : Int64) <<< ((Int32.ofNat n) &&& 0x3f).toInt64)), (.long u0), (.ref a)])
    refine Go.step (fun t k => XS.lxor X2.here hx rfl (hb hby d4_19) rfl k) ?_
    show Go _ _ _ _ _ _ _ T2 (mkF m 20 #[.val (.ref a), .val (.int (Int32.ofNat n)), .val (.long ((1 : Int64) <<< ((Int32.ofNat n) &&& 0x3f).toInt64)), .second] [(.long (((1 : Int64) <<< ((Int32.ofNat n) &&& 0x3f).toInt64) ^^^ (-1 : Int64))), (.long u0), (.ref a)])
    refine Go.step (fun t k => XS.land X2.here hx rfl (hb hby d4_20) rfl k) ?_
    show Go _ _ _ _ _ _ _ T2 (mkF m 21 #[.val (.ref a), .val (.int (Int32.ofNat n)), .val (.long ((1 : Int64) <<< ((Int32.ofNat n) &&& 0x3f).toInt64)), .second] [(.long (u0 &&& (((1 : Int64) <<< ((Int32.ofNat n) &&& 0x3f).toInt64) ^^^ (-1 : Int64)))), (.ref a)])
    obtain ⟨T3, h3, X3, e3, W3, st3⟩ := putF X2 hx hZ hown (host := "") (Or.inl (hw _ (List.mem_of_getElem? (i := 14) rfl))) Via.refl e2 F_0 E_a (Or.inl (hw _ (List.mem_of_getElem? (i := 15) rfl))) (hw _ (List.mem_of_getElem? (i := 1) rfl)) (ty := .long) (by decide) rfl rfl (g := (mkF m 21 #[.val (.ref a), .val (.int (Int32.ofNat n)), .val (.long ((1 : Int64) <<< ((Int32.ofNat n) &&& 0x3f).toInt64)), .second] [(.long (u0 &&& (((1 : Int64) <<< ((Int32.ofNat n) &&& 0x3f).toInt64) ^^^ (-1 : Int64)))), (.ref a)])) rfl rfl (hb hby d4_21)
    have F3 := Fld.same W3 F_0
    have N3 := Fr.snoc X3 N0 g_a
    have Z3 : n0 ≤ h3.size := Nat.le_trans Z0 (Keep.of_wr W3).1
    have K3 : Keep hI h3 [a] := K0.wr W3 (Or.inl (List.mem_of_getElem? (i := 0) rfl))
    refine Go.step (st3) ?_
    show Go _ _ _ _ _ _ _ T3 (mkF m 24 #[.val (.ref a), .val (.int (Int32.ofNat n)), .val (.long ((1 : Int64) <<< ((Int32.ofNat n) &&& 0x3f).toInt64)), .second] [])
    refine Go.step (fun t k => XS.goto X3.here hx rfl (pc0 := 24) (pc' := 89) rfl (hb hby d4_24) (by decide) (by decide) k) ?_
    show Go _ _ _ _ _ _ _ T3 (mkF m 89 #[.val (.ref a), .val (.int (Int32.ofNat n)), .val (.long ((1 : Int64) <<< ((Int32.ofNat n) &&& 0x3f).toInt64)), .second] [])
    have f4 := (Exa.wr W3 E_a)
    have f5 := (Fld.other W3 F_1 (Or.inr (slot_ne (Or.inl (hw _ (List.mem_of_getElem? (i := 37) rfl))) (Or.inl (hw _ (List.mem_of_getElem? (i := 15) rfl))) (by decide) (t := .long) (t' := .long) (by decide) (by decide))))
    have f6 := (Fld.other W3 F_2 (Or.inr (slot_ne (Or.inl (hw _ (List.mem_of_getElem? (i := 39) rfl))) (Or.inl (hw _ (List.mem_of_getElem? (i := 15) rfl))) (by decide) (t := .long) (t' := .long) (by decide) (by decide))))
    have f7 := (Fld.other W3 F_3 (Or.inr (slot_ne (Or.inl (hw _ (List.mem_of_getElem? (i := 41) rfl))) (Or.inl (hw _ (List.mem_of_getElem? (i := 15) rfl))) (by decide) (t := .long) (t' := .long) (by decide) (by decide))))
    refine go_ret X3 hx hret hlk (hb hby d4_89) ?_ (by decide) (by decide)
    try rw [e3]
    exact ⟨rfl, N3, eI ▸ K3, f4, _, _, _, _, F3, f5, f6, f7, hB.del0 ((own_cl n 64 hn (by decide)).mp c7_1)⟩
  · refine Go.step (fun t k => XS.icmpYes X0.here hx rfl (pc0 := 7) (pc' := 27) rfl (hb hby d4_7) rfl (flt c7_1).2.1 (by decide) (by decide) k) ?_
    show Go _ _ _ _ _ _ _ T0 (mkF m 27 #[.val (.ref a), .val (.int (Int32.ofNat n)), .val (.long ((1 : Int64) <<< ((Int32.ofNat n) &&& 0x3f).toInt64)), .second] [])
    refine Go.step (fun t k => XS.iloadN X0.here hx rfl (hb hby d4_27) rfl k) ?_
    show Go _ _ _ _ _ _ _ T0 (mkF m 28 #[.val (.ref a), .val (.int (Int32.ofNat n)), .val (.long ((1 : Int64) <<< ((Int32.ofNat n) &&& 0x3f).toInt64)), .second] [(.int (Int32.ofNat n))])
    refine Go.step (fun t k => XS.sipush X0.here hx rfl (hb hby d4_28) k) ?_
    show Go _ _ _ _ _ _ _ T0 (mkF m 31 #[.val (.ref a), .val (.int (Int32.ofNat n)), .val (.long ((1 : Int64) <<< ((Int32.ofNat n) &&& 0x3f).toInt64)), .second] [(.int (128 : Int32)), (.int (Int32.ofNat n))])
    by_cases c31_8 : (Int32.ofNat n) < (128 : Int32)
    · refine Go.step (fun t k => XS.icmpNo X0.here hx rfl (hb hby d4_31) rfl (tlt c31_8).2.1 k) ?_
      show Go _ _ _ _ _ _ _ T0 (mkF m 34 #[.val (.ref a), .val (.int (Int32.ofNat n)), .val (.long ((1 : Int64) <<< ((Int32.ofNat n) &&& 0x3f).toInt64)), .second] [])
      refine Go.step (fun t k => XS.aloadN X0.here hx rfl (hb hby d4_34) rfl rfl k) ?_
      show Go _ _ _ _ _ _ _ T0 (mkF m 35 #[.val (.ref a), .val (.int (Int32.ofNat n)), .val (.long ((1 : Int64) <<< ((Int32.ofNat n) &&& 0x3f).toInt64)), .second] [(.ref a)])
      refine Go.step (fun t k => XS.dup X0.here hx rfl (hb hby d4_35) rfl rfl k) ?_
      show Go _ _ _ _ _ _ _ T0 (mkF m 36 #[.val (.ref a), .val (.int (Int32.ofNat n)), .val (.long ((1 : Int64) <<< ((Int32.ofNat n) &&& 0x3f).toInt64)), .second] [(.ref a), (.ref a)])
      obtain ⟨T9, X9, e9, st9⟩ := getF X0 hx hZ hown (host := "") (Or.inl (hw _ (List.mem_of_getElem? (i := 36) rfl))) Via.refl e0 F_1 (g := (mkF m 36 #[.val (.ref a), .val (.int (Int32.ofNat n)), .val (.long ((1 : Int64) <<< ((Int32.ofNat n) &&& 0x3f).toInt64)), .second] [(.ref a), (.ref a)])) rfl rfl (hb hby d4_36)
      refine Go.step (st9) ?_
      show Go _ _ _ _ _ _ _ T9 (mkF m 39 #[.val (.ref a), .val (.int (Int32.ofNat n)), .val (.long ((1 : Int64) <<< ((Int32.ofNat n) &&& 0x3f).toInt64)), .second] [(.long u1), (.ref a)])
      refine Go.step (fun t k => XS.lloadN X9.here hx rfl (hb hby d4_39) rfl k) ?_
      show Go _ _ _ _ _ _ _ T9 (mkF m 40 #[.val (.ref a), .val (.int (Int32.ofNat n)), .val (.long ((1 : Int64) <<< ((Int32.ofNat n) &&& 0x3f).toInt64)), .second] [(.long ((1 : Int64) <<< ((Int32.ofNat n) &&& 0x3f).toInt64)), (.long u1), (.ref a)])
      refine Go.step (X9.ldc2Long hx hown (mvT hZ (hw _ (List.mem_of_getElem? (i := 21) rfl))) (g := (mkF m 40 #[.val (.ref a), .val (.int (Int32.ofNat n)), .val (.long ((1 : Int64) <<< ((Int32.ofNat n) &&& 0x3f).toInt64)), .second] [(.long ((1 : Int64) <<< ((Int32.ofNat n) &&& 0x3f).toInt64)), (.long u1), (.ref a)])) rfl (hb hby d4_40)) ?_
      show Go _ _ _ _ _ _ _ T9 (mkF m 43 #[.val (.ref a), .val (.int (Int32.ofNat n)), .val (.long ((1 : Int64) <<< ((Int32.ofNat n) &&& 0x3f).toInt64)), .second] [(.long (-1 : Int64)), (.long ((1 : Int64) <<< ((Int32.ofNat n) &&& 0x3f).toInt64)), (.long u1), (.ref a)])
      refine Go.step (fun t k => XS.lxor X9.here hx rfl (hb hby d4_43) rfl k) ?_
      show Go _ _ _ _ _ _ _ T9 (mkF m 44 #[.val (.ref a), .val (.int (Int32.ofNat n)), .val (.long ((1 : Int64) <<< ((Int32.ofNat n) &&& 0x3f).toInt64)), .second] [(.long (((1 : Int64) <<< ((Int32.ofNat n) &&& 0x3f).toInt64) ^^^ (-1 : Int64))), (.long u1), (.ref a)])
      refine Go.step (fun t k => XS.land X9.here hx rfl (hb hby d4_44) rfl k) ?_
      show Go _ _ _ _ _ _ _ T9 (mkF m 45 #[.val (.ref a), .val (.int (Int32.ofNat n)), .val (.long ((1 : Int64) <<< ((Int32.ofNat n) &&& 0x3f).toInt64)), .second] [(.long (u1 &&& (((1 : Int64) <<< ((Int32.ofNat n) &&& 0x3f).toInt64) ^^^ (-1 : Int64)))), (.ref a)])
      obtain ⟨T10, h10, X10, e10, W10, st10⟩ := putF X9 hx hZ hown (host := "") (Or.inl (hw _ (List.mem_of_getElem? (i := 36) rfl))) Via.refl e9 F_1 E_a (Or.inl (hw _ (List.mem_of_getElem? (i := 37) rfl))) (hw _ (List.mem_of_getElem? (i := 1) rfl)) (ty := .long) (by decide) rfl rfl (g := (mkF m 45 #[.val (.ref a), .val (.int (Int32.ofNat n)), .val (.long ((1 : Int64) <<< ((Int32.ofNat n) &&& 0x3f).toInt64)), .second] [(.long (u1 &&& (((1 : Int64) <<< ((Int32.ofNat n) &&& 0x3f).toInt64) ^^^ (-1 : Int64)))), (.ref a)])) rfl rfl (hb hby d4_45)
      have F10 := Fld.same W10 F_1
      have N10 := Fr.snoc X10 N0 g_a
      have Z10 : n0 ≤ h10.size := Nat.le_trans Z0 (Keep.of_wr W10).1
      have K10 : Keep hI h10 [a] := K0.wr W10 (Or.inl (List.mem_of_getElem? (i := 0) rfl))
      refine Go.step (st10) ?_
      show Go _ _ _ _ _ _ _ T10 (mkF m 48 #[.val (.ref a), .val (.int (Int32.ofNat n)), .val (.long ((1 : Int64) <<< ((Int32.ofNat n) &&& 0x3f).toInt64)), .second] [])
      refine Go.step (fun t k => XS.goto X10.here hx rfl (pc0 := 48) (pc' := 89) rfl (hb hby d4_48) (by decide) (by decide) k) ?_
      show Go _ _ _ _ _ _ _ T10 (mkF m 89 #[.val (.ref a), .val (.int (Int32.ofNat n)), .val (.long ((1 : Int64) <<< ((Int32.ofNat n) &&& 0x3f).toInt64)), .second] [])
      have f11 := (Exa.wr W10 E_a)
      have f12 := (Fld.other W10 F_0 (Or.inr (slot_ne (Or.inl (hw _ (List.mem_of_getElem? (i := 15) rfl))) (Or.inl (hw _ (List.mem_of_getElem? (i := 37) rfl))) (by decide) (t := .long) (t' := .long) (by decide) (by decide))))
      have f13 := (Fld.other W10 F_2 (Or.inr (slot_ne (Or.inl (hw _ (List.mem_of_getElem? (i := 39) rfl))) (Or.inl (hw _ (List.mem_of_getElem? (i := 37) rfl))) (by decide) (t := .long) (t' := .long) (by decide) (by decide))))
      have f14 := (Fld.other W10 F_3 (Or.inr (slot_ne (Or.inl (hw _ (List.mem_of_getElem? (i := 41) rfl))) (Or.inl (hw _ (List.mem_of_getElem? (i := 37) rfl))) (by decide) (t := .long) (t' := .long) (by decide) (by decide))))
      refine go_ret X10 hx hret hlk (hb hby d4_89) ?_ (by decide) (by decide)
      try rw [e10]
      exact ⟨rfl, N10, eI ▸ K10, f11, _, _, _, _, f12, F10, f13, f14, hB.del1 (mt (own_cl n 64 hn (by decide)).mpr c7_1) ((own_cl n 128 hn (by decide)).mp c31_8)⟩
    · refine Go.step (fun t k => XS.icmpYes X0.here hx rfl (pc0 := 31) (pc' := 51) rfl (hb hby d4_31) rfl (flt c31_8).2.1 (by decide) (by decide) k) ?_
      show Go _ _ _ _ _ _ _ T0 (mkF m 51 #[.val (.ref a), .val (.int (Int32.ofNat n)), .val (.long ((1 : Int64) <<< ((Int32.ofNat n) &&& 0x3f).toInt64)), .second] [])
      refine Go.step (fun t k => XS.iloadN X0.here hx rfl (hb hby d4_51) rfl k) ?_
      show Go _ _ _ _ _ _ _ T0 (mkF m 52 #[.val (.ref a), .val (.int (Int32.ofNat n)), .val (.long ((1 : Int64) <<< ((Int32.ofNat n) &&& 0x3f).toInt64)), .second] [(.int (Int32.ofNat n))])
      refine Go.step (fun t k => XS.sipush X0.here hx rfl (hb hby d4_52) k) ?_
      show Go _ _ _ _ _ _ _ T0 (mkF m 55 #[.val (.ref a), .val (.int (Int32.ofNat n)), .val (.long ((1 : Int64) <<< ((Int32.ofNat n) &&& 0x3f).toInt64)), .second] [(.int (192 : Int32)), (.int (Int32.ofNat n))])
      by_cases c55_15 : (Int32.ofNat n) < (192 : Int32)
      · refine Go.step (fun t k => XS.icmpNo X0.here hx rfl (hb hby d4_55) rfl (tlt c55_15).2.1 k) ?_
        show Go _ _ _ _ _ _ _ T0 (mkF m 58 #[.val (.ref a), .val (.int (Int32.ofNat n)), .val (.long ((1 : Int64) <<< ((Int32.ofNat n) &&& 0x3f).toInt64)), .second] [])
        refine Go.step (fun t k => XS.aloadN X0.here hx rfl (hb hby d4_58) rfl rfl k) ?_
        show Go _ _ _ _ _ _ _ T0 (mkF m 59 #[.val (.ref a), .val (.int (Int32.ofNat n)), .val (.long ((1 : Int64) <<< ((Int32.ofNat n) &&& 0x3f).toInt64)), .second] [(.ref a)])
        refine Go.step (fun t k => XS.dup X0.here hx rfl (hb hby d4_59) rfl rfl k) ?_
        show Go _ _ _ _ _ _ _ T0 (mkF m 60 #[.val (.ref a), .val (.int (Int32.ofNat n)), .val (.long ((1 : Int64) <<< ((Int32.ofNat n) &&& 0x3f).toInt64)), .second] [(.ref a), (.ref a)])
        obtain ⟨T16, X16, e16, st16⟩ := getF X0 hx hZ hown (host := "") (Or.inl (hw _ (List.mem_of_getElem? (i := 38) rfl))) Via.refl e0 F_2 (g := (mkF m 60 #[.val (.ref a), .val (.int (Int32.ofNat n)), .val (.long ((1 : Int64) <<< ((Int32.ofNat n) &&& 0x3f).toInt64)), .second] [(.ref a), (.ref a)])) rfl rfl (hb hby d4_60)
        refine Go.step (st16) ?_
        show Go _ _ _ _ _ _ _ T16 (mkF m 63 #[.val (.ref a), .val (.int (Int32.ofNat n)), .val (.long ((1 : Int64) <<< ((Int32.ofNat n) &&& 0x3f).toInt64)), .second] [(.long u2), (.ref a)])
        refine Go.step (fun t k => XS.lloadN X16.here hx rfl (hb hby d4_63) rfl k) ?_
        show Go _ _ _ _ _ _ _ T16 (mkF m 64 #[.val (.ref a), .val (.int (Int32.ofNat n)), .val (.long ((1 : Int64) <<< ((Int32.ofNat n) &&& 0x3f).toInt64)), .second] [(.long ((1 : Int64) <<< ((Int32.ofNat n) &&& 0x3f).toInt64)), (.long u2), (.ref a)])
        refine Go.step (X16.ldc2Long hx hown (mvT hZ (hw _ (List.mem_of_getElem? (i := 21) rfl))) (g := (mkF m 64 #[.val (.ref a), .val (.int (Int32.ofNat n)), .val (.long ((1 : Int64) <<< ((Int32.ofNat n) &&& 0x3f).toInt64)), .second] [(.long ((1 : Int64) <<< ((Int32.ofNat n) &&& 0x3f).toInt64)), (.long u2), (.ref a)])) rfl (hb hby d4_64)) ?_
        show Go _ _ _ _ _ _ _ T16 (mkF m 67 #[.val (.ref a), .val (.int (Int32.ofNat n)), .val (.long ((1 : Int64) <<< ((Int32.ofNat n) &&& 0x3f).toInt64)), .second] [(.long (-1 : Int64)), (.long ((1 : Int64) <<< ((Int32.ofNat n) &&& 0x3f).toInt64)), (.long u2), (.ref a)])
        refine Go.step (fun t k => XS.lxor X16.here hx rfl (hb hby d4_67) rfl k) ?_
        show Go _ _ _ _ _ _ _ T16 (mkF m 68 #[.val (.ref a), .val (.int (Int32.ofNat n)), .val (.long ((1 : Int64) <<< ((Int32.ofNat n) &&& 0x3f).toInt64)), .second] [(.long (((1 : Int64) <<< ((Int32.ofNat n) &&& 0x3f).toInt64) ^^^ (-1 : Int64))), (.long u2), (.ref a)])
        refine Go.step (fun t k => XS.land X16.here hx rfl (hb hby d4_68) rfl k) ?_
        show Go _ _ _ _ _ _ _ T16 (mkF m 69 #[.val (.ref a), .val (.int (Int32.ofNat n)), .val (.long ((1 : Int64) <<< ((Int32.ofNat n) &&& 0x3f).toInt64)), .second] [(.long (u2 &&& (((1 : Int64) <<< ((Int32.ofNat n) &&& 0x3f).toInt64) ^^^ (-1 : Int64)))), (.ref a)])
        obtain ⟨T17, h17, X17, e17, W17, st17⟩ := putF X16 hx hZ hown (host := "") (Or.inl (hw _ (List.mem_of_getElem? (i := 38) rfl))) Via.refl e16 F_2 E_a (Or.inl (hw _ (List.mem_of_getElem? (i := 39) rfl))) (hw _ (List.mem_of_getElem? (i := 1) rfl)) (ty := .long) (by decide) rfl rfl (g := (mkF m 69 #[.val (.ref a), .val (.int (Int32.ofNat n)), .val (.long ((1 : Int64) <<< ((Int32.ofNat n) &&& 0x3f).toInt64)), .second] [(.long (u2 &&& (((1 : Int64) <<< ((Int32.ofNat n) &&& 0x3f).toInt64) ^^^ (-1 : Int64)))), (.ref a)])) rfl rfl (hb hby d4_69)
        have F17 := Fld.same W17 F_2
        have N17 := Fr.snoc X17 N0 g_a
        have Z17 : n0 ≤ h17.size := Nat.le_trans Z0 (Keep.of_wr W17).1
        have K17 : Keep hI h17 [a] := K0.wr W17 (Or.inl (List.mem_of_getElem? (i := 0) rfl))
        refine Go.step (st17) ?_
        show Go _ _ _ _ _ _ _ T17 (mkF m 72 #[.val (.ref a), .val (.int (Int32.ofNat n)), .val (.long ((1 : Int64) <<< ((Int32.ofNat n) &&& 0x3f).toInt64)), .second] [])
        refine Go.step (fun t k => XS.goto X17.here hx rfl (pc0 := 72) (pc' := 89) rfl (hb hby d4_72) (by decide) (by decide) k) ?_
        show Go _ _ _ _ _ _ _ T17 (mkF m 89 #[.val (.ref a), .val (.int (Int32.ofNat n)), .val (.long ((1 : Int64) <<< ((Int32.ofNat n) &&& 0x3f).toInt64)), .second] [])
        have f18 := (Exa.wr W17 E_a)
        have f19 := (Fld.other W17 F_0 (Or.inr (slot_ne (Or.inl (hw _ (List.mem_of_getElem? (i := 15) rfl))) (Or.inl (hw _ (List.mem_of_getElem? (i := 39) rfl))) (by decide) (t := .long) (t' := .long) (by decide) (by decide))))
        have f20 := (Fld.other W17 F_1 (Or.inr (slot_ne (Or.inl (hw _ (List.mem_of_getElem? (i := 37) rfl))) (Or.inl (hw _ (List.mem_of_getElem? (i := 39) rfl))) (by decide) (t := .long) (t' := .long) (by decide) (by decide))))
        have f21 := (Fld.other W17 F_3 (Or.inr (slot_ne (Or.inl (hw _ (List.mem_of_getElem? (i := 41) rfl))) (Or.inl (hw _ (List.mem_of_getElem? (i := 39) rfl))) (by decide) (t := .long) (t' := .long) (by decide) (by decide))))
        refine go_ret X17 hx hret hlk (hb hby d4_89) ?_ (by decide) (by decide)
        try rw [e17]
        exact ⟨rfl, N17, eI ▸ K17, f18, _, _, _, _, f19, f20, F17, f21, hB.del2 (mt (own_cl n 128 hn (by decide)).mpr c31_8) ((own_cl n 192 hn (by decide)).mp c55_15)⟩
      · refine Go.step (fun t k => XS.icmpYes X0.here hx rfl (pc0 := 55) (pc' := 75) rfl (hb hby d4_55) rfl (flt c55_15).2.1 (by decide) (by decide) k) ?_
        show Go _ _ _ _ _ _ _ T0 (mkF m 75 #[.val (.ref a), .val (.int (Int32.ofNat n)), .val (.long ((1 : Int64) <<< ((Int32.ofNat n) &&& 0x3f).toInt64)), .second] [])
        refine Go.step (fun t k => XS.aloadN X0.here hx rfl (hb hby d4_75) rfl rfl k) ?_
        show Go _ _ _ _ _ _ _ T0 (mkF m 76 #[.val (.ref a), .val (.int (Int32.ofNat n)), .val (.long ((1 : Int64) <<< ((Int32.ofNat n) &&& 0x3f).toInt64)), .second] [(.ref a)])
        refine Go.step (fun t k => XS.dup X0.here hx rfl (hb hby d4_76) rfl rfl k) ?_
        show Go _ _ _ _ _ _ _ T0 (mkF m 77 #[.val (.ref a), .val (.int (Int32.ofNat n)), .val (.long ((1 : Int64) <<< ((Int32.ofNat n) &&& 0x3f).toInt64)), .second] [(.ref a), (.ref a)])
        obtain ⟨T22, X22, e22, st22⟩ := getF X0 hx hZ hown (host := "") (Or.inl (hw _ (List.mem_of_getElem? (i := 40) rfl))) Via.refl e0 F_3 (g := (mkF m 77 #[.val (.ref a), .val (.int (Int32.ofNat n)), .val (.long ((1 : Int64) <<< ((Int32.ofNat n) &&& 0x3f).toInt64)), .second] [(.ref a), (.ref a)])) rfl rfl (hb hby d4_77)
        refine Go.step (st22) ?_
        show Go _ _ _ _ _ _ _ T22 (mkF m 80 #[.val (.ref a), .val (.int (Int32.ofNat n)), .val (.long ((1 : Int64) <<< ((Int32.ofNat n) &&& 0x3f).toInt64)), .second] [(.long u3), (.ref a)])
        refine Go.step (fun t k => XS.lloadN X22.here hx rfl (hb hby d4_80) rfl k) ?_
        show Go _ _ _ _ _ _ _ T22 (mkF m 81 #[.val (.ref a), .val (.int (Int32.ofNat n)), .val (.long ((1 : Int64) <<< ((Int32.ofNat n) &&& 0x3f).toInt64)), .second] [(.long ((1 : Int64) <<< ((Int32.ofNat n) &&& 0x3f).toInt64)), (.long u3), (.ref a)])
        refine Go.step (X22.ldc2Long hx hown (mvT hZ (hw _ (List.mem_of_getElem? (i := 21) rfl))) (g := (mkF m 81 #[.val (.ref a), .val (.int (Int32.ofNat n)), .val (.long ((1 : Int64) <<< ((Int32.ofNat n) &&& 0x3f).toInt64)), .second] [(.long ((1 : Int64) <<< ((Int32.ofNat n) &&& 0x3f).toInt64)), (.long u3), (.ref a)])) rfl (hb hby d4_81)) ?_
        show Go _ _ _ _ _ _ _ T22 (mkF m 84 #[.val (.ref a), .val (.int (Int32.ofNat n)), .val (.long ((1 : Int64) <<< ((Int32.ofNat n) &&& 0x3f).toInt64)), .second] [(.long (-1 : Int64)), (.long ((1 : Int64) <<< ((Int32.ofNat n) &&& 0x3f).toInt64)), (.long u3), (.ref a)])
        refine Go.step (fun t k => XS.lxor X22.here hx rfl (hb hby d4_84) rfl k) ?_
        show Go _ _ _ _ _ _ _ T22 (mkF m 85 #[.val (.ref a), .val (.int (Int32.ofNat n)), .val (.long ((1 : Int64) <<< ((Int32.ofNat n) &&& 0x3f).toInt64)), .second] [(.long (((1 : Int64) <<< ((Int32.ofNat n) &&& 0x3f).toInt64) ^^^ (-1 : Int64))), (.long u3), (.ref a)])
        refine Go.step (fun t k => XS.land X22.here hx rfl (hb hby d4_85) rfl k) ?_
        show Go _ _ _ _ _ _ _ T22 (mkF m 86 #[.val (.ref a), .val (.int (Int32.ofNat n)), .val (.long ((1 : Int64) <<< ((Int32.ofNat n) &&& 0x3f).toInt64)), .second] [(.long (u3 &&& (((1 : Int64) <<< ((Int32.ofNat n) &&& 0x3f).toInt64) ^^^ (-1 : Int64)))), (.ref a)])
        obtain ⟨T23, h23, X23, e23, W23, st23⟩ := putF X22 hx hZ hown (host := "") (Or.inl (hw _ (List.mem_of_getElem? (i := 40) rfl))) Via.refl e22 F_3 E_a (Or.inl (hw _ (List.mem_of_getElem? (i := 41) rfl))) (hw _ (List.mem_of_getElem? (i := 1) rfl)) (ty := .long) (by decide) rfl rfl (g := (mkF m 86 #[.val (.ref a), .val (.int (Int32.ofNat n)), .val (.long ((1 : Int64) <<< ((Int32.ofNat n) &&& 0x3f).toInt64)), .second] [(.long (u3 &&& (((1 : Int64) <<< ((Int32.ofNat n) &&& 0x3f).toInt64) ^^^ (-1 : Int64)))), (.ref a)])) rfl rfl (hb hby d4_86)
        have F23 := Fld.same W23 F_3
        have N23 := Fr.snoc X23 N0 g_a
        have Z23 : n0 ≤ h23.size := Nat.le_trans Z0 (Keep.of_wr W23).1
        have K23 : Keep hI h23 [a] := K0.wr W23 (Or.inl (List.mem_of_getElem? (i := 0) rfl))
        refine Go.step (st23) ?_
        show Go _ _ _ _ _ _ _ T23 (mkF m 89 #[.val (.ref a), .val (.int (Int32.ofNat n)), .val (.long ((1 : Int64) <<< ((Int32.ofNat n) &&& 0x3f).toInt64)), .second] [])
        have f24 := (Exa.wr W23 E_a)
        have f25 := (Fld.other W23 F_0 (Or.inr (slot_ne (Or.inl (hw _ (List.mem_of_getElem? (i := 15) rfl))) (Or.inl (hw _ (List.mem_of_getElem? (i := 41) rfl))) (by decide) (t := .long) (t' := .long) (by decide) (by decide))))
        have f26 := (Fld.other W23 F_1 (Or.inr (slot_ne (Or.inl (hw _ (List.mem_of_getElem? (i := 37) rfl))) (Or.inl (hw _ (List.mem_of_getElem? (i := 41) rfl))) (by decide) (t := .long) (t' := .long) (by decide) (by decide))))
        have f27 := (Fld.other W23 F_2 (Or.inr (slot_ne (Or.inl (hw _ (List.mem_of_getElem? (i := 39) rfl))) (Or.inl (hw _ (List.mem_of_getElem? (i := 41) rfl))) (by decide) (t := .long) (t' := .long) (by decide) (by decide))))
        refine go_ret X23 hx hret hlk (hb hby d4_89) ?_ (by decide) (by decide)
        try rw [e23]
        exact ⟨rfl, N23, eI ▸ K23, f24, _, _, _, _, f25, f26, f27, F23, hB.del3 (mt (own_cl n 192 hn (by decide)).mpr c55_15) hn⟩
theorem ef_rmW (m : MethodId) (x0 : Addr) (x1 : Int32) : entryFrame m #[(.ref x0), (.int x1)] 4 = mkF m 0 #[.val (.ref x0), .val (.int x1), .unset, .unset] [] := by first | (simp [entryFrame, mkF, argsToLocals, Value.category]; done) | rfl
theorem d6_0 : decode prog_67_method_3_code 0 = .ok (.iload_n 1, 1) := by decide +kernel
theorem d6_1 : decode prog_67_method_3_code 1 = .ok (.bipush 64, 2) := by decide +kernel
theorem d6_3 : decode prog_67_method_3_code 3 = .ok (.if_icmp .ge 11, 3) := by decide +kernel
theorem d6_6 : decode prog_67_method_3_code 6 = .ok (.aload_n 0, 1) := by decide +kernel
theorem d6_7 : decode prog_67_method_3_code 7 = .ok (.getfield 13, 3) := by decide +kernel
theorem d6_10 : decode prog_67_method_3_code 10 = .ok (.lstore_n 2, 1) := by decide +kernel
theorem d6_11 : decode prog_67_method_3_code 11 = .ok (.goto 38, 3) := by decide +kernel
theorem d6_49 : decode prog_67_method_3_code 49 = .ok (.lload_n 2, 1) := by decide +kernel
theorem d6_50 : decode prog_67_method_3_code 50 = .ok (.lreturn, 1) := by decide +kernel
theorem d6_14 : decode prog_67_method_3_code 14 = .ok (.iload_n 1, 1) := by decide +kernel
theorem d6_15 : decode prog_67_method_3_code 15 = .ok (.sipush 128, 3) := by decide +kernel
theorem d6_18 : decode prog_67_method_3_code 18 = .ok (.if_icmp .ge 11, 3) := by decide +kernel
theorem d6_21 : decode prog_67_method_3_code 21 = .ok (.aload_n 0, 1) := by decide +kernel
theorem d6_22 : decode prog_67_method_3_code 22 = .ok (.getfield 17, 3) := by decide +kernel
theorem d6_25 : decode prog_67_method_3_code 25 = .ok (.lstore_n 2, 1) := by decide +kernel
theorem d6_26 : decode prog_67_method_3_code 26 = .ok (.goto 23, 3) := by decide +kernel
theorem d6_29 : decode prog_67_method_3_code 29 = .ok (.iload_n 1, 1) := by decide +kernel
theorem d6_30 : decode prog_67_method_3_code 30 = .ok (.sipush 192, 3) := by decide +kernel
theorem d6_33 : decode prog_67_method_3_code 33 = .ok (.if_icmp .ge 11, 3) := by decide +kernel
theorem d6_36 : decode prog_67_method_3_code 36 = .ok (.aload_n 0, 1) := by decide +kernel
theorem d6_37 : decode prog_67_method_3_code 37 = .ok (.getfield 20, 3) := by decide +kernel
theorem d6_40 : decode prog_67_method_3_code 40 = .ok (.lstore_n 2, 1) := by decide +kernel
theorem d6_41 : decode prog_67_method_3_code 41 = .ok (.goto 8, 3) := by decide +kernel
theorem d6_44 : decode prog_67_method_3_code 44 = .ok (.aload_n 0, 1) := by decide +kernel
theorem d6_45 : decode prog_67_method_3_code 45 = .ok (.getfield 23, 3) := by decide +kernel
theorem d6_48 : decode prog_67_method_3_code 48 = .ok (.lstore_n 2, 1) := by decide +kernel
set_option maxRecDepth 65536 in
set_option maxHeartbeats 40000000 in
theorem rmW (l : Launch) (Z : State) (a0 : Array Value) (hw : ∀ d ∈ tables_1, d.before a0 Z = true) (ws : List Jvm.Cond) (a : Addr) (n : Nat) (u0 u1 u2 u3 : Int64) (S : Nat → Bool) (h0 : Heap) (n0 : Nat) (Z0 : n0 ≤ h0.size) (hn : n < 256) (hB : Bits S u0 u1 u2 u3) (E_a : Exa Z h0 a "com/example/touchtree/touchtree/node/PointerSet") (F_0 : Fld Z h0 a "com/example/touchtree/touchtree/node/PointerSet" "bits0" "J" (.long u0)) (F_1 : Fld Z h0 a "com/example/touchtree/touchtree/node/PointerSet" "bits1" "J" (.long u1)) (F_2 : Fld Z h0 a "com/example/touchtree/touchtree/node/PointerSet" "bits2" "J" (.long u2)) (F_3 : Fld Z h0 a "com/example/touchtree/touchtree/node/PointerSet" "bits3" "J" (.long u3)) :
    Ctr l Z (⟨"com/example/touchtree/touchtree/node/PointerSet", "word", "(I)J"⟩ : MethodName) prog_67_method_3_code 4 (some .long) ws ({ frames := 0, cells := 0, slots := 0, locals := 0 } : Room) 0 0 #[(.ref a), (.int (Int32.ofNat n))] h0 (fun v h L => v = some (.long (wsel (Int32.ofNat n) u0 u1 u2 u3)) ∧ L = [] ∧ h = h0) := by
  refine Ctr.mk (plainFor_of_name pn_0) fun p e s m below meth c T0 X0 C e0 => go_cast (ef_rmW m a (Int32.ofNat n)) ?_
  have N0 := Fr.nil n0
  obtain ⟨hx, hZ, hby, hml, hown, hnm, hret, hlk⟩ := C
  show Go _ _ _ _ _ _ _ T0 (mkF m 0 #[.val (.ref a), .val (.int (Int32.ofNat n)), .unset, .unset] [])
  refine Go.step (fun t k => XS.iloadN X0.here hx rfl (hb hby d6_0) rfl k) ?_
  show Go _ _ _ _ _ _ _ T0 (mkF m 1 #[.val (.ref a), .val (.int (Int32.ofNat n)), .unset, .unset] [(.int (Int32.ofNat n))])
  refine Go.step (fun t k => XS.bipush X0.here hx rfl (hb hby d6_1) k) ?_
  show Go _ _ _ _ _ _ _ T0 (mkF m 3 #[.val (.ref a), .val (.int (Int32.ofNat n)), .unset, .unset] [(.int (64 : Int32)), (.int (Int32.ofNat n))])
  by_cases c3_1 : (Int32.ofNat n) < (64 : Int32)
  · refine Go.step (fun t k => XS.icmpNo X0.here hx rfl (hb hby d6_3) rfl (tlt c3_1).2.1 k) ?_
    show Go _ _ _ _ _ _ _ T0 (mkF m 6 #[.val (.ref a), .val (.int (Int32.ofNat n)), .unset, .unset] [])
    refine Go.step (fun t k => XS.aloadN X0.here hx rfl (hb hby d6_6) rfl rfl k) ?_
    show Go _ _ _ _ _ _ _ T0 (mkF m 7 #[.val (.ref a), .val (.int (Int32.ofNat n)), .unset, .unset] [(.ref a)])
    obtain ⟨T2, X2, e2, st2⟩ := getF X0 hx hZ hown (host := "") (Or.inl (hw _ (List.mem_of_getElem? (i := 14) rfl))) Via.refl e0 F_0 (g := (mkF m 7 #[.val (.ref a), .val (.int (Int32.ofNat n)), .unset, .unset] [(.ref a)])) rfl rfl (hb hby d6_7)
    refine Go.step (st2) ?_
    show Go _ _ _ _ _ _ _ T2 (mkF m 10 #[.val (.ref a), .val (.int (Int32.ofNat n)), .unset, .unset] [(.long u0)])
    refine Go.step (fun t k => XS.lstoreN X2.here hx rfl (hb hby d6_10) rfl (l' := #[.val (.ref a), .val (.int (Int32.ofNat n)), .val (.long u0), .second]) rfl k) ?_
    show Go _ _ _ _ _ _ _ T2 (mkF m 11 #[.val (.ref a), .val (.int (Int32.ofNat n)), .val (.long u0), .second] [])
    refine Go.step (fun t k => XS.goto X2.here hx rfl (pc0 := 11) (pc' := 49) rfl (hb hby d6_11) (by decide) (by decide) k) ?_
    show Go _ _ _ _ _ _ _ T2 (mkF m 49 #[.val (.ref a), .val (.int (Int32.ofNat n)), .val (.long u0), .second] [])
    refine Go.step (fun t k => XS.lloadN X2.here hx rfl (hb hby d6_49) rfl k) ?_
    show Go _ _ _ _ _ _ _ T2 (mkF m 50 #[.val (.ref a), .val (.int (Int32.ofNat n)), .val (.long u0), .second] [(.long u0)])
    refine go_retJ X2 hx hret hlk (hb hby d6_50) ?_ (by decide) (by decide)
    try rw [e2]
    exact ⟨congrArg (fun z => some (Value.long z)) (by simp only [wsel, eq_true c3_1, if_true, if_false]), rfl, rfl⟩
  · refine Go.step (fun t k => XS.icmpYes X0.here hx rfl (pc0 := 3) (pc' := 14) rfl (hb hby d6_3) rfl (flt c3_1).2.1 (by decide) (by decide) k) ?_
    show Go _ _ _ _ _ _ _ T0 (mkF m 14 #[.val (.ref a), .val (.int (Int32.ofNat n)), .unset, .unset] [])
    refine Go.step (fun t k => XS.iloadN X0.here hx rfl (hb hby d6_14) rfl k) ?_
    show Go _ _ _ _ _ _ _ T0 (mkF m 15 #[.val (.ref a), .val (.int (Int32.ofNat n)), .unset, .unset] [(.int (Int32.ofNat n))])
    refine Go.step (fun t k => XS.sipush X0.here hx rfl (hb hby d6_15) k) ?_
    show Go _ _ _ _ _ _ _ T0 (mkF m 18 #[.val (.ref a), .val (.int (Int32.ofNat n)), .unset, .unset] [(.int (128 : Int32)), (.int (Int32.ofNat n))])
    by_cases c18_3 : (Int32.ofNat n) < (128 : Int32)
    · refine Go.step (fun t k => XS.icmpNo X0.here hx rfl (hb hby d6_18) rfl (tlt c18_3).2.1 k) ?_
      show Go _ _ _ _ _ _ _ T0 (mkF m 21 #[.val (.ref a), .val (.int (Int32.ofNat n)), .unset, .unset] [])
      refine Go.step (fun t k => XS.aloadN X0.here hx rfl (hb hby d6_21) rfl rfl k) ?_
      show Go _ _ _ _ _ _ _ T0 (mkF m 22 #[.val (.ref a), .val (.int (Int32.ofNat n)), .unset, .unset] [(.ref a)])
      obtain ⟨T4, X4, e4, st4⟩ := getF X0 hx hZ hown (host := "") (Or.inl (hw _ (List.mem_of_getElem? (i := 36) rfl))) Via.refl e0 F_1 (g := (mkF m 22 #[.val (.ref a), .val (.int (Int32.ofNat n)), .unset, .unset] [(.ref a)])) rfl rfl (hb hby d6_22)
      refine Go.step (st4) ?_
      show Go _ _ _ _ _ _ _ T4 (mkF m 25 #[.val (.ref a), .val (.int (Int32.ofNat n)), .unset, .unset] [(.long u1)])
      refine Go.step (fun t k => XS.lstoreN X4.here hx rfl (hb hby d6_25) rfl (l' := #[.val (.ref a), .val (.int (Int32.ofNat n)), .val (.long u1), .second]) rfl k) ?_
      show Go _ _ _ _ _ _ _ T4 (mkF m 26 #[.val (.ref a), .val (.int (Int32.ofNat n)), .val (.long u1), .second] [])
      refine Go.step (fun t k => XS.goto X4.here hx rfl (pc0 := 26) (pc' := 49) rfl (hb hby d6_26) (by decide) (by decide) k) ?_
      show Go _ _ _ _ _ _ _ T4 (mkF m 49 #[.val (.ref a), .val (.int (Int32.ofNat n)), .val (.long u1), .second] [])
      refine Go.step (fun t k => XS.lloadN X4.here hx rfl (hb hby d6_49) rfl k) ?_
      show Go _ _ _ _ _ _ _ T4 (mkF m 50 #[.val (.ref a), .val (.int (Int32.ofNat n)), .val (.long u1), .second] [(.long u1)])
      refine go_retJ X4 hx hret hlk (hb hby d6_50) ?_ (by decide) (by decide)
      try rw [e4]
      exact ⟨congrArg (fun z => some (Value.long z)) (by simp only [wsel, eq_false c3_1, eq_true c18_3, if_true, if_false]), rfl, rfl⟩
    · refine Go.step (fun t k => XS.icmpYes X0.here hx rfl (pc0 := 18) (pc' := 29) rfl (hb hby d6_18) rfl (flt c18_3).2.1 (by decide) (by decide) k) ?_
      show Go _ _ _ _ _ _ _ T0 (mkF m 29 #[.val (.ref a), .val (.int (Int32.ofNat n)), .unset, .unset] [])
      refine Go.step (fun t k => XS.iloadN X0.here hx rfl (hb hby d6_29) rfl k) ?_
      show Go _ _ _ _ _ _ _ T0 (mkF m 30 #[.val (.ref a), .val (.int (Int32.ofNat n)), .unset, .unset] [(.int (Int32.ofNat n))])
      refine Go.step (fun t k => XS.sipush X0.here hx rfl (hb hby d6_30) k) ?_
      show Go _ _ _ _ _ _ _ T0 (mkF m 33 #[.val (.ref a), .val (.int (Int32.ofNat n)), .unset, .unset] [(.int (192 : Int32)), (.int (Int32.ofNat n))])
      by_cases c33_5 : (Int32.ofNat n) < (192 : Int32)
      · refine Go.step (fun t k => XS.icmpNo X0.here hx rfl (hb hby d6_33) rfl (tlt c33_5).2.1 k) ?_
        show Go _ _ _ _ _ _ _ T0 (mkF m 36 #[.val (.ref a), .val (.int (Int32.ofNat n)), .unset, .unset] [])
        refine Go.step (fun t k => XS.aloadN X0.here hx rfl (hb hby d6_36) rfl rfl k) ?_
        show Go _ _ _ _ _ _ _ T0 (mkF m 37 #[.val (.ref a), .val (.int (Int32.ofNat n)), .unset, .unset] [(.ref a)])
        obtain ⟨T6, X6, e6, st6⟩ := getF X0 hx hZ hown (host := "") (Or.inl (hw _ (List.mem_of_getElem? (i := 38) rfl))) Via.refl e0 F_2 (g := (mkF m 37 #[.val (.ref a), .val (.int (Int32.ofNat n)), .unset, .unset] [(.ref a)])) rfl rfl (hb hby d6_37)
        refine Go.step (st6) ?_
        show Go _ _ _ _ _ _ _ T6 (mkF m 40 #[.val (.ref a), .val (.int (Int32.ofNat n)), .unset, .unset] [(.long u2)])
        refine Go.step (fun t k => XS.lstoreN X6.here hx rfl (hb hby d6_40) rfl (l' := #[.val (.ref a), .val (.int (Int32.ofNat n)), .val (.long u2), .second]) rfl k) ?_
        show Go _ _ _ _ _ _ _ T6 (mkF m 41 #[.val (.ref a), .val (.int (Int32.ofNat n)), .val (.long u2), .second] [])
        refine Go.step (fun t k => XS.goto X6.here hx rfl (pc0 := 41) (pc' := 49) rfl (hb hby d6_41) (by decide) (by decide) k) ?_
        show Go _ _ _ _ _ _ _ T6 (mkF m 49 #[.val (.ref a), .val (.int (Int32.ofNat n)), .val (.long u2), .second] [])
        refine Go.step (fun t k => XS.lloadN X6.here hx rfl (hb hby d6_49) rfl k) ?_
        show Go _ _ _ _ _ _ _ T6 (mkF m 50 #[.val (.ref a), .val (.int (Int32.ofNat n)), .val (.long u2), .second] [(.long u2)])
        refine go_retJ X6 hx hret hlk (hb hby d6_50) ?_ (by decide) (by decide)
        try rw [e6]
        exact ⟨congrArg (fun z => some (Value.long z)) (by simp only [wsel, eq_false c3_1, eq_false c18_3, eq_true c33_5, if_true, if_false]), rfl, rfl⟩
      · refine Go.step (fun t k => XS.icmpYes X0.here hx rfl (pc0 := 33) (pc' := 44) rfl (hb hby d6_33) rfl (flt c33_5).2.1 (by decide) (by decide) k) ?_
        show Go _ _ _ _ _ _ _ T0 (mkF m 44 #[.val (.ref a), .val (.int (Int32.ofNat n)), .unset, .unset] [])
        refine Go.step (fun t k => XS.aloadN X0.here hx rfl (hb hby d6_44) rfl rfl k) ?_
        show Go _ _ _ _ _ _ _ T0 (mkF m 45 #[.val (.ref a), .val (.int (Int32.ofNat n)), .unset, .unset] [(.ref a)])
        obtain ⟨T7, X7, e7, st7⟩ := getF X0 hx hZ hown (host := "") (Or.inl (hw _ (List.mem_of_getElem? (i := 40) rfl))) Via.refl e0 F_3 (g := (mkF m 45 #[.val (.ref a), .val (.int (Int32.ofNat n)), .unset, .unset] [(.ref a)])) rfl rfl (hb hby d6_45)
        refine Go.step (st7) ?_
        show Go _ _ _ _ _ _ _ T7 (mkF m 48 #[.val (.ref a), .val (.int (Int32.ofNat n)), .unset, .unset] [(.long u3)])
        refine Go.step (fun t k => XS.lstoreN X7.here hx rfl (hb hby d6_48) rfl (l' := #[.val (.ref a), .val (.int (Int32.ofNat n)), .val (.long u3), .second]) rfl k) ?_
        show Go _ _ _ _ _ _ _ T7 (mkF m 49 #[.val (.ref a), .val (.int (Int32.ofNat n)), .val (.long u3), .second] [])
        refine Go.step (fun t k => XS.lloadN X7.here hx rfl (hb hby d6_49) rfl k) ?_
        show Go _ _ _ _ _ _ _ T7 (mkF m 50 #[.val (.ref a), .val (.int (Int32.ofNat n)), .val (.long u3), .second] [(.long u3)])
        refine go_retJ X7 hx hret hlk (hb hby d6_50) ?_ (by decide) (by decide)
        try rw [e7]
        exact ⟨congrArg (fun z => some (Value.long z)) (by simp only [wsel, eq_false c3_1, eq_false c18_3, eq_false c33_5, if_true, if_false]), rfl, rfl⟩
theorem ef_rmC (m : MethodId) (x0 : Addr) (x1 : Int32) : entryFrame m #[(.ref x0), (.int x1)] 2 = mkF m 0 #[.val (.ref x0), .val (.int x1)] [] := by first | (simp [entryFrame, mkF, argsToLocals, Value.category]; done) | rfl
theorem d5_0 : decode prog_67_method_2_code 0 = .ok (.aload_n 0, 1) := by decide +kernel
theorem d5_1 : decode prog_67_method_2_code 1 = .ok (.iload_n 1, 1) := by decide +kernel
theorem pd_0 : parseMethodDescriptor "(I)J" = some ⟨[.int], some .long⟩ := by decide +kernel
theorem d5_2 : decode prog_67_method_2_code 2 = .ok (.invokevirtual 7, 3) := by decide +kernel
theorem d5_5 : decode prog_67_method_2_code 5 = .ok (.lconst 1, 1) := by decide +kernel
theorem d5_6 : decode prog_67_method_2_code 6 = .ok (.iload_n 1, 1) := by decide +kernel
theorem d5_7 : decode prog_67_method_2_code 7 = .ok (.lshl, 1) := by decide +kernel
theorem d5_8 : decode prog_67_method_2_code 8 = .ok (.land, 1) := by decide +kernel
theorem d5_9 : decode prog_67_method_2_code 9 = .ok (.lconst 0, 1) := by decide +kernel
theorem d5_10 : decode prog_67_method_2_code 10 = .ok (.lcmp, 1) := by decide +kernel
theorem d5_11 : decode prog_67_method_2_code 11 = .ok (.ifCond .eq 7, 3) := by decide +kernel
theorem d5_18 : decode prog_67_method_2_code 18 = .ok (.iconst 0, 1) := by decide +kernel
theorem d5_19 : decode prog_67_method_2_code 19 = .ok (.ireturn, 1) := by decide +kernel
theorem d5_14 : decode prog_67_method_2_code 14 = .ok (.iconst 1, 1) := by decide +kernel
theorem d5_15 : decode prog_67_method_2_code 15 = .ok (.goto 4, 3) := by decide +kernel
set_option maxRecDepth 65536 in
set_option maxHeartbeats 40000000 in
theorem rmC (l : Launch) (Z : State) (a0 : Array Value) (hw : ∀ d ∈ tables_1, d.before a0 Z = true) (ws : List Jvm.Cond) (a : Addr) (n : Nat) (u0 u1 u2 u3 : Int64) (S : Nat → Bool) (h0 : Heap) (n0 : Nat) (Z0 : n0 ≤ h0.size) (hn : n < 256) (hB : Bits S u0 u1 u2 u3) (E_a : Exa Z h0 a "com/example/touchtree/touchtree/node/PointerSet") (F_0 : Fld Z h0 a "com/example/touchtree/touchtree/node/PointerSet" "bits0" "J" (.long u0)) (F_1 : Fld Z h0 a "com/example/touchtree/touchtree/node/PointerSet" "bits1" "J" (.long u1)) (F_2 : Fld Z h0 a "com/example/touchtree/touchtree/node/PointerSet" "bits2" "J" (.long u2)) (F_3 : Fld Z h0 a "com/example/touchtree/touchtree/node/PointerSet" "bits3" "J" (.long u3)) :
    Ctr l Z (⟨"com/example/touchtree/touchtree/node/PointerSet", "contains", "(I)Z"⟩ : MethodName) prog_67_method_2_code 2 (some .boolean) ws ({ frames := 1, cells := 0, slots := 0, locals := 15 } : Room) 0 0 #[(.ref a), (.int (Int32.ofNat n))] h0 (fun v h L => v = some (.int (bi (S n = true))) ∧ L = [] ∧ h = h0) := by
  refine Ctr.mk (plainFor_of_name pn_0) fun p e s m below meth c T0 X0 C e0 => go_cast (ef_rmC m a (Int32.ofNat n)) ?_
  have N0 := Fr.nil n0
  obtain ⟨hx, hZ, hby, hml, hown, hnm, hret, hlk⟩ := C
  show Go _ _ _ _ _ _ _ T0 (mkF m 0 #[.val (.ref a), .val (.int (Int32.ofNat n))] [])
  refine Go.step (fun t k => XS.aloadN X0.here hx rfl (hb hby d5_0) rfl rfl k) ?_
  show Go _ _ _ _ _ _ _ T0 (mkF m 1 #[.val (.ref a), .val (.int (Int32.ofNat n))] [(.ref a)])
  refine Go.step (fun t k => XS.iloadN X0.here hx rfl (hb hby d5_1) rfl k) ?_
  show Go _ _ _ _ _ _ _ T0 (mkF m 2 #[.val (.ref a), .val (.int (Int32.ofNat n))] [(.int (Int32.ofNat n)), (.ref a)])
  obtain ⟨v1, T1, L1, X1, q1, st1⟩ := c_priv X0 hx hZ hown (y := (⟨"com/example/touchtree/touchtree/node/PointerSet", "word", "(I)J"⟩ : MethodName)) (hw _ (List.mem_of_getElem? (i := 27) rfl)) (hw _ (List.mem_of_getElem? (i := 28) rfl)) (own_nf (mvT (args := #[]) hZ (hw _ (List.mem_of_getElem? (i := 12) rfl))) rfl) (hw _ (List.mem_of_getElem? (i := 29) rfl)) (hw _ (List.mem_of_getElem? (i := 2) rfl)) (hw _ (List.mem_of_getElem? (i := 30) rfl)) (by decide) (a := a) (argsL := [(.int (Int32.ofNat n))]) (rest := []) (rmW l Z a0 hw [] a n u0 u1 u2 u3 S h0 n0 Z0 hn hB E_a F_0 F_1 F_2 F_3) e0 E_a pd_0 rfl (by rw [hml]; rfl) (W := 0) (by show 2 * 0 + _ ≤ _; exact Nat.le_of_eq rfl) (by decide) (by decide) (by decide) (by decide) (hb hby d5_2) (Ls := #[.val (.ref a), .val (.int (Int32.ofNat n))])
  obtain ⟨rfl, rfl, e1⟩ := q1
  have N1 := Fr.app N0 (Fr.nil n0)
  refine Go.step (st1) ?_
  show Go _ _ _ _ _ _ _ T1 (mkF m 5 #[.val (.ref a), .val (.int (Int32.ofNat n))] [(.long (wsel (Int32.ofNat n) u0 u1 u2 u3))])
  refine Go.step (fun t k => XS.lconst X1.here hx rfl (hb hby d5_5) k) ?_
  show Go _ _ _ _ _ _ _ T1 (mkF m 6 #[.val (.ref a), .val (.int (Int32.ofNat n))] [(.long (1 : Int64)), (.long (wsel (Int32.ofNat n) u0 u1 u2 u3))])
  refine Go.step (fun t k => XS.iloadN X1.here hx rfl (hb hby d5_6) rfl k) ?_
  show Go _ _ _ _ _ _ _ T1 (mkF m 7 #[.val (.ref a), .val (.int (Int32.ofNat n))] [(.int (Int32.ofNat n)), (.long (1 : Int64)), (.long (wsel (Int32.ofNat n) u0 u1 u2 u3))])
  refine Go.step (fun t k => XS.lshl X1.here hx rfl (hb hby d5_7) rfl k) ?_
  show Go _ _ _ _ _ _ _ T1 (mkF m 8 #[.val (.ref a), .val (.int (Int32.ofNat n))] [(.long ((1 : Int64) <<< ((Int32.ofNat n) &&& 0x3f).toInt64)), (.long (wsel (Int32.ofNat n) u0 u1 u2 u3))])
  refine Go.step (fun t k => XS.land X1.here hx rfl (hb hby d5_8) rfl k) ?_
  show Go _ _ _ _ _ _ _ T1 (mkF m 9 #[.val (.ref a), .val (.int (Int32.ofNat n))] [(.long ((wsel (Int32.ofNat n) u0 u1 u2 u3) &&& ((1 : Int64) <<< ((Int32.ofNat n) &&& 0x3f).toInt64)))])
  refine Go.step (fun t k => XS.lconst X1.here hx rfl (hb hby d5_9) k) ?_
  show Go _ _ _ _ _ _ _ T1 (mkF m 10 #[.val (.ref a), .val (.int (Int32.ofNat n))] [(.long (0 : Int64)), (.long ((wsel (Int32.ofNat n) u0 u1 u2 u3) &&& ((1 : Int64) <<< ((Int32.ofNat n) &&& 0x3f).toInt64)))])
  refine Go.step (fun t k => XS.lcmp X1.here hx rfl (hb hby d5_10) rfl k) ?_
  show Go _ _ _ _ _ _ _ T1 (mkF m 11 #[.val (.ref a), .val (.int (Int32.ofNat n))] [(.int (lcmpW ((wsel (Int32.ofNat n) u0 u1 u2 u3) &&& ((1 : Int64) <<< ((Int32.ofNat n) &&& 0x3f).toInt64)) (0 : Int64)))])
  by_cases c11_2 : ((wsel (Int32.ofNat n) u0 u1 u2 u3) &&& ((1 : Int64) <<< ((Int32.ofNat n) &&& 0x3f).toInt64)) = (0 : Int64)
  · refine Go.step (fun t k => XS.ifYes X1.here hx rfl (pc0 := 11) (pc' := 18) rfl (hb hby d5_11) rfl ((if0 _ _).trans (teq ((lw_eq _ _).mpr c11_2)).1) (by decide) (by decide) k) ?_
    show Go _ _ _ _ _ _ _ T1 (mkF m 18 #[.val (.ref a), .val (.int (Int32.ofNat n))] [])
    refine Go.step (fun t k => XS.iconst X1.here hx rfl (hb hby d5_18) k) ?_
    show Go _ _ _ _ _ _ _ T1 (mkF m 19 #[.val (.ref a), .val (.int (Int32.ofNat n))] [(.int (0 : Int32))])
    refine go_retN X1 hx (t := .boolean) hret (by simp) hlk (hb hby d5_19) (w := (0 : Int32)) rfl ?_ (by decide) (by decide)
    try rw [e1]
    exact ⟨congrArg (fun z => some (Value.int z)) (bi_f (mt (hB.has hn).mpr (not_not_intro c11_2))).symm, rfl, rfl⟩
  · refine Go.step (fun t k => XS.ifNo X1.here hx rfl (hb hby d5_11) rfl ((if0 _ _).trans (feq (fun q => c11_2 ((lw_eq _ _).mp q))).1) k) ?_
    show Go _ _ _ _ _ _ _ T1 (mkF m 14 #[.val (.ref a), .val (.int (Int32.ofNat n))] [])
    refine Go.step (fun t k => XS.iconst X1.here hx rfl (hb hby d5_14) k) ?_
    show Go _ _ _ _ _ _ _ T1 (mkF m 15 #[.val (.ref a), .val (.int (Int32.ofNat n))] [(.int (1 : Int32))])
    refine Go.step (fun t k => XS.goto X1.here hx rfl (pc0 := 15) (pc' := 19) rfl (hb hby d5_15) (by decide) (by decide) k) ?_
    show Go _ _ _ _ _ _ _ T1 (mkF m 19 #[.val (.ref a), .val (.int (Int32.ofNat n))] [(.int (1 : Int32))])
    refine go_retN X1 hx (t := .boolean) hret (by simp) hlk (hb hby d5_19) (w := (1 : Int32)) rfl ?_ (by decide) (by decide)
    try rw [e1]
    exact ⟨congrArg (fun z => some (Value.int z)) (bi_t ((hB.has hn).mp c11_2)).symm, rfl, rfl⟩
theorem ef_rmE (m : MethodId) (x0 : Addr) : entryFrame m #[(.ref x0)] 1 = mkF m 0 #[.val (.ref x0)] [] := by first | (simp [entryFrame, mkF, argsToLocals, Value.category]; done) | rfl
theorem d7_0 : decode prog_67_method_6_code 0 = .ok (.aload_n 0, 1) := by decide +kernel
theorem d7_1 : decode prog_67_method_6_code 1 = .ok (.getfield 13, 3) := by decide +kernel
theorem d7_4 : decode prog_67_method_6_code 4 = .ok (.aload_n 0, 1) := by decide +kernel
theorem d7_5 : decode prog_67_method_6_code 5 = .ok (.getfield 17, 3) := by decide +kernel
theorem d7_8 : decode prog_67_method_6_code 8 = .ok (.lor, 1) := by decide +kernel
theorem d7_9 : decode prog_67_method_6_code 9 = .ok (.aload_n 0, 1) := by decide +kernel
theorem d7_10 : decode prog_67_method_6_code 10 = .ok (.getfield 20, 3) := by decide +kernel
theorem d7_13 : decode prog_67_method_6_code 13 = .ok (.lor, 1) := by decide +kernel
theorem d7_14 : decode prog_67_method_6_code 14 = .ok (.aload_n 0, 1) := by decide +kernel
theorem d7_15 : decode prog_67_method_6_code 15 = .ok (.getfield 23, 3) := by decide +kernel
theorem d7_18 : decode prog_67_method_6_code 18 = .ok (.lor, 1) := by decide +kernel
theorem d7_19 : decode prog_67_method_6_code 19 = .ok (.lconst 0, 1) := by decide +kernel
theorem d7_20 : decode prog_67_method_6_code 20 = .ok (.lcmp, 1) := by decide +kernel
theorem d7_21 : decode prog_67_method_6_code 21 = .ok (.ifCond .ne 7, 3) := by decide +kernel
theorem d7_24 : decode prog_67_method_6_code 24 = .ok (.iconst 1, 1) := by decide +kernel
theorem d7_25 : decode prog_67_method_6_code 25 = .ok (.goto 4, 3) := by decide +kernel
theorem d7_29 : decode prog_67_method_6_code 29 = .ok (.ireturn, 1) := by decide +kernel
theorem d7_28 : decode prog_67_method_6_code 28 = .ok (.iconst 0, 1) := by decide +kernel
set_option maxRecDepth 65536 in
set_option maxHeartbeats 40000000 in
theorem rmE (l : Launch) (Z : State) (a0 : Array Value) (hw : ∀ d ∈ tables_1, d.before a0 Z = true) (ws : List Jvm.Cond) (a : Addr) (n : Nat) (u0 u1 u2 u3 : Int64) (S : Nat → Bool) (h0 : Heap) (n0 : Nat) (Z0 : n0 ≤ h0.size) (hn : n < 256) (hB : Bits S u0 u1 u2 u3) (E_a : Exa Z h0 a "com/example/touchtree/touchtree/node/PointerSet") (F_0 : Fld Z h0 a "com/example/touchtree/touchtree/node/PointerSet" "bits0" "J" (.long u0)) (F_1 : Fld Z h0 a "com/example/touchtree/touchtree/node/PointerSet" "bits1" "J" (.long u1)) (F_2 : Fld Z h0 a "com/example/touchtree/touchtree/node/PointerSet" "bits2" "J" (.long u2)) (F_3 : Fld Z h0 a "com/example/touchtree/touchtree/node/PointerSet" "bits3" "J" (.long u3)) :
    Ctr l Z (⟨"com/example/touchtree/touchtree/node/PointerSet", "isEmpty", "()Z"⟩ : MethodName) prog_67_method_6_code 1 (some .boolean) ws ({ frames := 0, cells := 0, slots := 0, locals := 0 } : Room) 0 0 #[(.ref a)] h0 (fun v h L => v = some (.int (bi (Emp S))) ∧ L = [] ∧ h = h0) := by
  refine Ctr.mk (plainFor_of_name pn_0) fun p e s m below meth c T0 X0 C e0 => go_cast (ef_rmE m a) ?_
  have N0 := Fr.nil n0
  obtain ⟨hx, hZ, hby, hml, hown, hnm, hret, hlk⟩ := C
  show Go _ _ _ _ _ _ _ T0 (mkF m 0 #[.val (.ref a)] [])
  refine Go.step (fun t k => XS.aloadN X0.here hx rfl (hb hby d7_0) rfl rfl k) ?_
  show Go _ _ _ _ _ _ _ T0 (mkF m 1 #[.val (.ref a)] [(.ref a)])
  obtain ⟨T1, X1, e1, st1⟩ := getF X0 hx hZ hown (host := "") (Or.inl (hw _ (List.mem_of_getElem? (i := 14) rfl))) Via.refl e0 F_0 (g := (mkF m 1 #[.val (.ref a)] [(.ref a)])) rfl rfl (hb hby d7_1)
  refine Go.step (st1) ?_
  show Go _ _ _ _ _ _ _ T1 (mkF m 4 #[.val (.ref a)] [(.long u0)])
  refine Go.step (fun t k => XS.aloadN X1.here hx rfl (hb hby d7_4) rfl rfl k) ?_
  show Go _ _ _ _ _ _ _ T1 (mkF m 5 #[.val (.ref a)] [(.ref a), (.long u0)])
  obtain ⟨T2, X2, e2, st2⟩ := getF X1 hx hZ hown (host := "") (Or.inl (hw _ (List.mem_of_getElem? (i := 36) rfl))) Via.refl e1 F_1 (g := (mkF m 5 #[.val (.ref a)] [(.ref a), (.long u0)])) rfl rfl (hb hby d7_5)
  refine Go.step (st2) ?_
  show Go _ _ _ _ _ _ _ T2 (mkF m 8 #[.val (.ref a)] [(.long u1), (.long u0)])
  refine Go.step (fun t k => XS.lor X2.here hx rfl (hb hby d7_8) rfl k) ?_
  show Go _ _ _ _ _ _ _ T2 (mkF m 9 #[.val (.ref a)] [(.long (u0 ||| u1))])
  refine Go.step (fun t k => XS.aloadN X2.here hx rfl (hb hby d7_9) rfl rfl k) ?_
  show Go _ _ _ _ _ _ _ T2 (mkF m 10 #[.val (.ref a)] [(.ref a), (.long (u0 ||| u1))])
  obtain ⟨T3, X3, e3, st3⟩ := getF X2 hx hZ hown (host := "") (Or.inl (hw _ (List.mem_of_getElem? (i := 38) rfl))) Via.refl e2 F_2 (g := (mkF m 10 #[.val (.ref a)] [(.ref a), (.long (u0 ||| u1))])) rfl rfl (hb hby d7_10)
  refine Go.step (st3) ?_
  show Go _ _ _ _ _ _ _ T3 (mkF m 13 #[.val (.ref a)] [(.long u2), (.long (u0 ||| u1))])
  refine Go.step (fun t k => XS.lor X3.here hx rfl (hb hby d7_13) rfl k) ?_
  show Go _ _ _ _ _ _ _ T3 (mkF m 14 #[.val (.ref a)] [(.long ((u0 ||| u1) ||| u2))])
  refine Go.step (fun t k => XS.aloadN X3.here hx rfl (hb hby d7_14) rfl rfl k) ?_
  show Go _ _ _ _ _ _ _ T3 (mkF m 15 #[.val (.ref a)] [(.ref a), (.long ((u0 ||| u1) ||| u2))])
  obtain ⟨T4, X4, e4, st4⟩ := getF X3 hx hZ hown (host := "") (Or.inl (hw _ (List.mem_of_getElem? (i := 40) rfl))) Via.refl e3 F_3 (g := (mkF m 15 #[.val (.ref a)] [(.ref a), (.long ((u0 ||| u1) ||| u2))])) rfl rfl (hb hby d7_15)
  refine Go.step (st4) ?_
  show Go _ _ _ _ _ _ _ T4 (mkF m 18 #[.val (.ref a)] [(.long u3), (.long ((u0 ||| u1) ||| u2))])
  refine Go.step (fun t k => XS.lor X4.here hx rfl (hb hby d7_18) rfl k) ?_
  show Go _ _ _ _ _ _ _ T4 (mkF m 19 #[.val (.ref a)] [(.long (((u0 ||| u1) ||| u2) ||| u3))])
  refine Go.step (fun t k => XS.lconst X4.here hx rfl (hb hby d7_19) k) ?_
  show Go _ _ _ _ _ _ _ T4 (mkF m 20 #[.val (.ref a)] [(.long (0 : Int64)), (.long (((u0 ||| u1) ||| u2) ||| u3))])
  refine Go.step (fun t k => XS.lcmp X4.here hx rfl (hb hby d7_20) rfl k) ?_
  show Go _ _ _ _ _ _ _ T4 (mkF m 21 #[.val (.ref a)] [(.int (lcmpW (((u0 ||| u1) ||| u2) ||| u3) (0 : Int64)))])
  by_cases c21_5 : (((u0 ||| u1) ||| u2) ||| u3) = (0 : Int64)
  · refine Go.step (fun t k => XS.ifNo X4.here hx rfl (hb hby d7_21) rfl ((if0 _ _).trans (teq ((lw_eq _ _).mpr c21_5)).2) k) ?_
    show Go _ _ _ _ _ _ _ T4 (mkF m 24 #[.val (.ref a)] [])
    refine Go.step (fun t k => XS.iconst X4.here hx rfl (hb hby d7_24) k) ?_
    show Go _ _ _ _ _ _ _ T4 (mkF m 25 #[.val (.ref a)] [(.int (1 : Int32))])
    refine Go.step (fun t k => XS.goto X4.here hx rfl (pc0 := 25) (pc' := 29) rfl (hb hby d7_25) (by decide) (by decide) k) ?_
    show Go _ _ _ _ _ _ _ T4 (mkF m 29 #[.val (.ref a)] [(.int (1 : Int32))])
    refine go_retN X4 hx (t := .boolean) hret (by simp) hlk (hb hby d7_29) (w := (1 : Int32)) rfl ?_ (by decide) (by decide)
    try rw [e4]
    exact ⟨congrArg (fun z => some (Value.int z)) (bi_t (hB.emp.mp c21_5)).symm, rfl, rfl⟩
  · refine Go.step (fun t k => XS.ifYes X4.here hx rfl (pc0 := 21) (pc' := 28) rfl (hb hby d7_21) rfl ((if0 _ _).trans (feq (fun q => c21_5 ((lw_eq _ _).mp q))).2) (by decide) (by decide) k) ?_
    show Go _ _ _ _ _ _ _ T4 (mkF m 28 #[.val (.ref a)] [])
    refine Go.step (fun t k => XS.iconst X4.here hx rfl (hb hby d7_28) k) ?_
    show Go _ _ _ _ _ _ _ T4 (mkF m 29 #[.val (.ref a)] [(.int (0 : Int32))])
    refine go_retN X4 hx (t := .boolean) hret (by simp) hlk (hb hby d7_29) (w := (0 : Int32)) rfl ?_ (by decide) (by decide)
    try rw [e4]
    exact ⟨congrArg (fun z => some (Value.int z)) (bi_f (mt hB.emp.mpr c21_5)).symm, rfl, rfl⟩
theorem own_q (na nb nr nq : Nat) : (del (ins (ins (fun _ => false) na) nb) nr) nq = true ↔ ¬ nq = nr ∧ (nq = na ∨ nq = nb) := by
  simp only [ins, del, Bool.and_eq_true, Bool.or_eq_true, decide_eq_true_eq, Bool.not_eq_true', decide_eq_false_iff_not, Bool.false_eq_true, false_or]
  exact and_comm
theorem own_e (na nb nr : Nat) (ha : na < 256) (hb : nb < 256) : Emp (del (ins (ins (fun _ => false) na) nb) nr) ↔ na = nr ∧ nb = nr := by
  constructor
  · intro h
    have h1 : ¬ (del (ins (ins (fun _ => false) na) nb) nr) na = true := by rw [h na ha]; simp
    have h2 : ¬ (del (ins (ins (fun _ => false) na) nb) nr) nb = true := by rw [h nb hb]; simp
    rw [own_q] at h1 h2
    omega
  · rintro ⟨rfl, rfl⟩ i hi
    by_cases e : i = nb <;> simp [ins, del, e]
theorem ef_rm0 (m : MethodId) (x0 : Int32) (x1 : Int32) (x2 : Int32) (x3 : Int32) : entryFrame m #[(.int x0), (.int x1), (.int x2), (.int x3)] maxLocals = mkF m 0 #[.val (.int x0), .val (.int x1), .val (.int x2), .val (.int x3), .unset, .unset, .unset, .unset, .unset, .unset] [] := by first | (simp [entryFrame, mkF, argsToLocals, Value.category, maxLocals]; done) | rfl
theorem pn_1 : plainName "com/example/touchtree/touchtree/node/PointerSetRemovePinLaw" = true := by first | (simp [plainName, overriddenIn]; done) | decide +kernel
theorem pd_1 : parseMethodDescriptor "()V" = some ⟨[], none⟩ := by decide +kernel
theorem pd_2 : parseMethodDescriptor "(I)V" = some ⟨[.int], none⟩ := by decide +kernel
theorem pd_3 : parseMethodDescriptor "(I)Z" = some ⟨[.int], some .boolean⟩ := by decide +kernel
theorem pd_4 : parseMethodDescriptor "()Z" = some ⟨[], some .boolean⟩ := by decide +kernel
set_option maxRecDepth 65536 in
set_option maxHeartbeats 40000000 in
theorem rm0 (l : Launch) (Z : State) (a0 : Array Value) (hw : ∀ d ∈ tables_1, d.before a0 Z = true) (ws : List Jvm.Cond) (i0 i1 i2 i3 : Int32) (h0 : Heap) (n0 : Nat) (Z0 : n0 ≤ h0.size)  :
    Ctr l Z x code maxLocals ret ws room_1 16 128 #[(.int i0), (.int i1), (.int i2), (.int i3)] h0 (fun v h L => v = some (.int (1 : Int32)) ∧ Fr n0 L) := by
  refine Ctr.mk (plainFor_of_name pn_1) fun p e s m below meth c T0 X0 C e0 => go_cast (ef_rm0 m i0 i1 i2 i3) ?_
  have N0 := Fr.nil n0
  obtain ⟨hx, hZ, hby, hml, hown, hnm, hret, hlk⟩ := C
  show Go _ _ _ _ _ _ _ T0 (mkF m 0 #[.val (.int i0), .val (.int i1), .val (.int i2), .val (.int i3), .unset, .unset, .unset, .unset, .unset, .unset] [])
  refine Go.step (fun t k => XS.iloadN X0.here hx rfl (hb hby at_0) rfl k) ?_
  show Go _ _ _ _ _ _ _ T0 (mkF m 1 #[.val (.int i0), .val (.int i1), .val (.int i2), .val (.int i3), .unset, .unset, .unset, .unset, .unset, .unset] [(.int i0)])
  refine Go.step (fun t k => XS.sipush X0.here hx rfl (hb hby at_1) k) ?_
  show Go _ _ _ _ _ _ _ T0 (mkF m 4 #[.val (.int i0), .val (.int i1), .val (.int i2), .val (.int i3), .unset, .unset, .unset, .unset, .unset, .unset] [(.int (255 : Int32)), (.int i0)])
  refine Go.step (fun t k => XS.iand X0.here hx rfl (hb hby at_4) rfl k) ?_
  show Go _ _ _ _ _ _ _ T0 (mkF m 5 #[.val (.int i0), .val (.int i1), .val (.int i2), .val (.int i3), .unset, .unset, .unset, .unset, .unset, .unset] [(.int (i0 &&& (255 : Int32)))])
  refine Go.step (fun t k => XS.istore X0.here hx rfl (hb hby at_5) rfl (l' := #[.val (.int i0), .val (.int i1), .val (.int i2), .val (.int i3), .val (.int (i0 &&& (255 : Int32))), .unset, .unset, .unset, .unset, .unset]) rfl k) ?_
  show Go _ _ _ _ _ _ _ T0 (mkF m 7 #[.val (.int i0), .val (.int i1), .val (.int i2), .val (.int i3), .val (.int (i0 &&& (255 : Int32))), .unset, .unset, .unset, .unset, .unset] [])
  obtain ⟨na, hna, ena⟩ := own_255 i0
  rw [ena]
  show Go _ _ _ _ _ _ _ T0 (mkF m 7 #[.val (.int i0), .val (.int i1), .val (.int i2), .val (.int i3), .val (.int (Int32.ofNat na)), .unset, .unset, .unset, .unset, .unset] [])
  refine Go.step (fun t k => XS.iloadN X0.here hx rfl (hb hby at_7) rfl k) ?_
  show Go _ _ _ _ _ _ _ T0 (mkF m 8 #[.val (.int i0), .val (.int i1), .val (.int i2), .val (.int i3), .val (.int (Int32.ofNat na)), .unset, .unset, .unset, .unset, .unset] [(.int i1)])
  refine Go.step (fun t k => XS.sipush X0.here hx rfl (hb hby at_8) k) ?_
  show Go _ _ _ _ _ _ _ T0 (mkF m 11 #[.val (.int i0), .val (.int i1), .val (.int i2), .val (.int i3), .val (.int (Int32.ofNat na)), .unset, .unset, .unset, .unset, .unset] [(.int (255 : Int32)), (.int i1)])
  refine Go.step (fun t k => XS.iand X0.here hx rfl (hb hby at_11) rfl k) ?_
  show Go _ _ _ _ _ _ _ T0 (mkF m 12 #[.val (.int i0), .val (.int i1), .val (.int i2), .val (.int i3), .val (.int (Int32.ofNat na)), .unset, .unset, .unset, .unset, .unset] [(.int (i1 &&& (255 : Int32)))])
  refine Go.step (fun t k => XS.istore X0.here hx rfl (hb hby at_12) rfl (l' := #[.val (.int i0), .val (.int i1), .val (.int i2), .val (.int i3), .val (.int (Int32.ofNat na)), .val (.int (i1 &&& (255 : Int32))), .unset, .unset, .unset, .unset]) rfl k) ?_
  show Go _ _ _ _ _ _ _ T0 (mkF m 14 #[.val (.int i0), .val (.int i1), .val (.int i2), .val (.int i3), .val (.int (Int32.ofNat na)), .val (.int (i1 &&& (255 : Int32))), .unset, .unset, .unset, .unset] [])
  obtain ⟨nb, hnb, enb⟩ := own_255 i1
  rw [enb]
  show Go _ _ _ _ _ _ _ T0 (mkF m 14 #[.val (.int i0), .val (.int i1), .val (.int i2), .val (.int i3), .val (.int (Int32.ofNat na)), .val (.int (Int32.ofNat nb)), .unset, .unset, .unset, .unset] [])
  refine Go.step (fun t k => XS.iloadN X0.here hx rfl (hb hby at_14) rfl k) ?_
  show Go _ _ _ _ _ _ _ T0 (mkF m 15 #[.val (.int i0), .val (.int i1), .val (.int i2), .val (.int i3), .val (.int (Int32.ofNat na)), .val (.int (Int32.ofNat nb)), .unset, .unset, .unset, .unset] [(.int i2)])
  refine Go.step (fun t k => XS.sipush X0.here hx rfl (hb hby at_15) k) ?_
  show Go _ _ _ _ _ _ _ T0 (mkF m 18 #[.val (.int i0), .val (.int i1), .val (.int i2), .val (.int i3), .val (.int (Int32.ofNat na)), .val (.int (Int32.ofNat nb)), .unset, .unset, .unset, .unset] [(.int (255 : Int32)), (.int i2)])
  refine Go.step (fun t k => XS.iand X0.here hx rfl (hb hby at_18) rfl k) ?_
  show Go _ _ _ _ _ _ _ T0 (mkF m 19 #[.val (.int i0), .val (.int i1), .val (.int i2), .val (.int i3), .val (.int (Int32.ofNat na)), .val (.int (Int32.ofNat nb)), .unset, .unset, .unset, .unset] [(.int (i2 &&& (255 : Int32)))])
  refine Go.step (fun t k => XS.istore X0.here hx rfl (hb hby at_19) rfl (l' := #[.val (.int i0), .val (.int i1), .val (.int i2), .val (.int i3), .val (.int (Int32.ofNat na)), .val (.int (Int32.ofNat nb)), .val (.int (i2 &&& (255 : Int32))), .unset, .unset, .unset]) rfl k) ?_
  show Go _ _ _ _ _ _ _ T0 (mkF m 21 #[.val (.int i0), .val (.int i1), .val (.int i2), .val (.int i3), .val (.int (Int32.ofNat na)), .val (.int (Int32.ofNat nb)), .val (.int (i2 &&& (255 : Int32))), .unset, .unset, .unset] [])
  obtain ⟨nr, hnr, enr⟩ := own_255 i2
  rw [enr]
  show Go _ _ _ _ _ _ _ T0 (mkF m 21 #[.val (.int i0), .val (.int i1), .val (.int i2), .val (.int i3), .val (.int (Int32.ofNat na)), .val (.int (Int32.ofNat nb)), .val (.int (Int32.ofNat nr)), .unset, .unset, .unset] [])
  refine Go.step (fun t k => XS.iloadN X0.here hx rfl (hb hby at_21) rfl k) ?_
  show Go _ _ _ _ _ _ _ T0 (mkF m 22 #[.val (.int i0), .val (.int i1), .val (.int i2), .val (.int i3), .val (.int (Int32.ofNat na)), .val (.int (Int32.ofNat nb)), .val (.int (Int32.ofNat nr)), .unset, .unset, .unset] [(.int i3)])
  refine Go.step (fun t k => XS.sipush X0.here hx rfl (hb hby at_22) k) ?_
  show Go _ _ _ _ _ _ _ T0 (mkF m 25 #[.val (.int i0), .val (.int i1), .val (.int i2), .val (.int i3), .val (.int (Int32.ofNat na)), .val (.int (Int32.ofNat nb)), .val (.int (Int32.ofNat nr)), .unset, .unset, .unset] [(.int (255 : Int32)), (.int i3)])
  refine Go.step (fun t k => XS.iand X0.here hx rfl (hb hby at_25) rfl k) ?_
  show Go _ _ _ _ _ _ _ T0 (mkF m 26 #[.val (.int i0), .val (.int i1), .val (.int i2), .val (.int i3), .val (.int (Int32.ofNat na)), .val (.int (Int32.ofNat nb)), .val (.int (Int32.ofNat nr)), .unset, .unset, .unset] [(.int (i3 &&& (255 : Int32)))])
  refine Go.step (fun t k => XS.istore X0.here hx rfl (hb hby at_26) rfl (l' := #[.val (.int i0), .val (.int i1), .val (.int i2), .val (.int i3), .val (.int (Int32.ofNat na)), .val (.int (Int32.ofNat nb)), .val (.int (Int32.ofNat nr)), .val (.int (i3 &&& (255 : Int32))), .unset, .unset]) rfl k) ?_
  show Go _ _ _ _ _ _ _ T0 (mkF m 28 #[.val (.int i0), .val (.int i1), .val (.int i2), .val (.int i3), .val (.int (Int32.ofNat na)), .val (.int (Int32.ofNat nb)), .val (.int (Int32.ofNat nr)), .val (.int (i3 &&& (255 : Int32))), .unset, .unset] [])
  obtain ⟨nq, hnq, enq⟩ := own_255 i3
  rw [enq]
  show Go _ _ _ _ _ _ _ T0 (mkF m 28 #[.val (.int i0), .val (.int i1), .val (.int i2), .val (.int i3), .val (.int (Int32.ofNat na)), .val (.int (Int32.ofNat nb)), .val (.int (Int32.ofNat nr)), .val (.int (Int32.ofNat nq)), .unset, .unset] [])
  obtain ⟨T1, h1, X1, e1, E1, A1, D1, -, st1⟩ := newO X0 hx hZ hown (hw _ (List.mem_of_getElem? (i := 0) rfl)) (hw _ (List.mem_of_getElem? (i := 1) rfl)) (hw _ (List.mem_of_getElem? (i := 2) rfl)) e0 (g := (mkF m 28 #[.val (.int i0), .val (.int i1), .val (.int i2), .val (.int i3), .val (.int (Int32.ofNat na)), .val (.int (Int32.ofNat nb)), .val (.int (Int32.ofNat nr)), .val (.int (Int32.ofNat nq)), .unset, .unset] [])) rfl (hb hby at_28) (by decide) (by decide)
  obtain ⟨b1, g1⟩ : ∃ z, z = h0.size := ⟨_, rfl⟩
  rw [← g1] at A1 D1 st1
  have gn_b1 : n0 ≤ b1 := Nat.le_trans Z0 (Nat.le_of_eq g1.symm)
  have Z1 : n0 ≤ h1.size := Nat.le_trans Z0 E1.1
  have F1_bits0 : Fld Z h1 b1 "com/example/touchtree/touchtree/node/PointerSet" "bits0" "J" (.long (0 : Int64)) := D1 (Or.inl (hw _ (List.mem_of_getElem? (i := 15) rfl))) (ty := .long) (by decide)
  have F1_bits1 : Fld Z h1 b1 "com/example/touchtree/touchtree/node/PointerSet" "bits1" "J" (.long (0 : Int64)) := D1 (Or.inl (hw _ (List.mem_of_getElem? (i := 37) rfl))) (ty := .long) (by decide)
  have F1_bits2 : Fld Z h1 b1 "com/example/touchtree/touchtree/node/PointerSet" "bits2" "J" (.long (0 : Int64)) := D1 (Or.inl (hw _ (List.mem_of_getElem? (i := 39) rfl))) (ty := .long) (by decide)
  have F1_bits3 : Fld Z h1 b1 "com/example/touchtree/touchtree/node/PointerSet" "bits3" "J" (.long (0 : Int64)) := D1 (Or.inl (hw _ (List.mem_of_getElem? (i := 41) rfl))) (ty := .long) (by decide)
  refine Go.step (st1) ?_
  show Go _ _ _ _ _ _ _ T1 (mkF m 31 #[.val (.int i0), .val (.int i1), .val (.int i2), .val (.int i3), .val (.int (Int32.ofNat na)), .val (.int (Int32.ofNat nb)), .val (.int (Int32.ofNat nr)), .val (.int (Int32.ofNat nq)), .unset, .unset] [(.ref b1)])
  refine Go.step (fun t k => XS.dup X1.here hx rfl (hb hby at_31) rfl rfl k) ?_
  show Go _ _ _ _ _ _ _ T1 (mkF m 32 #[.val (.int i0), .val (.int i1), .val (.int i2), .val (.int i3), .val (.int (Int32.ofNat na)), .val (.int (Int32.ofNat nb)), .val (.int (Int32.ofNat nr)), .val (.int (Int32.ofNat nq)), .unset, .unset] [(.ref b1), (.ref b1)])
  obtain ⟨v2, T2, L2, X2, q2, st2⟩ := c_init X1 hx hZ hown (y := (⟨"com/example/touchtree/touchtree/node/PointerSet", "<init>", "()V"⟩ : MethodName)) (hw _ (List.mem_of_getElem? (i := 3) rfl)) (hw _ (List.mem_of_getElem? (i := 4) rfl)) (hw _ (List.mem_of_getElem? (i := 2) rfl)) (hw _ (List.mem_of_getElem? (i := 5) rfl)) rfl (by decide) (a := b1) (argsL := []) (rest := [(.ref b1)]) (rmI l Z a0 hw [] b1    h1 n0 Z1 A1   ) e1 pd_1 rfl (by rw [hml]; rfl) (W := 1) (by show 2 * 0 + _ ≤ _; exact Nat.le_of_eq rfl) (by decide) (by decide) (by decide) (by decide) (hb hby at_32) (Ls := #[.val (.int i0), .val (.int i1), .val (.int i2), .val (.int i3), .val (.int (Int32.ofNat na)), .val (.int (Int32.ofNat nb)), .val (.int (Int32.ofNat nr)), .val (.int (Int32.ofNat nq)), .unset, .unset])
  obtain ⟨rfl, rfl, e2⟩ := q2
  have N2 := Fr.app N0 (Fr.nil n0)
  refine Go.step (st2) ?_
  show Go _ _ _ _ _ _ _ T2 (mkF m 35 #[.val (.int i0), .val (.int i1), .val (.int i2), .val (.int i3), .val (.int (Int32.ofNat na)), .val (.int (Int32.ofNat nb)), .val (.int (Int32.ofNat nr)), .val (.int (Int32.ofNat nq)), .unset, .unset] [(.ref b1)])
  refine Go.step (fun t k => XS.astore X2.here hx rfl (hb hby at_35) rfl rfl (l' := #[.val (.int i0), .val (.int i1), .val (.int i2), .val (.int i3), .val (.int (Int32.ofNat na)), .val (.int (Int32.ofNat nb)), .val (.int (Int32.ofNat nr)), .val (.int (Int32.ofNat nq)), .val (.ref b1), .unset]) rfl k) ?_
  show Go _ _ _ _ _ _ _ T2 (mkF m 37 #[.val (.int i0), .val (.int i1), .val (.int i2), .val (.int i3), .val (.int (Int32.ofNat na)), .val (.int (Int32.ofNat nb)), .val (.int (Int32.ofNat nr)), .val (.int (Int32.ofNat nq)), .val (.ref b1), .unset] [])
  refine Go.step (fun t k => XS.aload X2.here hx rfl (hb hby at_37) rfl rfl k) ?_
  show Go _ _ _ _ _ _ _ T2 (mkF m 39 #[.val (.int i0), .val (.int i1), .val (.int i2), .val (.int i3), .val (.int (Int32.ofNat na)), .val (.int (Int32.ofNat nb)), .val (.int (Int32.ofNat nr)), .val (.int (Int32.ofNat nq)), .val (.ref b1), .unset] [(.ref b1)])
  refine Go.step (fun t k => XS.iload X2.here hx rfl (hb hby at_39) rfl k) ?_
  show Go _ _ _ _ _ _ _ T2 (mkF m 41 #[.val (.int i0), .val (.int i1), .val (.int i2), .val (.int i3), .val (.int (Int32.ofNat na)), .val (.int (Int32.ofNat nb)), .val (.int (Int32.ofNat nr)), .val (.int (Int32.ofNat nq)), .val (.ref b1), .unset] [(.int (Int32.ofNat na)), (.ref b1)])
  obtain ⟨v3, T3, L3, X3, q3, st3⟩ := c_virt X2 hx hZ hown (y' := (⟨"com/example/touchtree/touchtree/node/PointerSet", "add", "(I)V"⟩ : MethodName)) (y := (⟨"com/example/touchtree/touchtree/node/PointerSet", "add", "(I)V"⟩ : MethodName)) (C := "com/example/touchtree/touchtree/node/PointerSet") (hw _ (List.mem_of_getElem? (i := 9) rfl)) (hw _ (List.mem_of_getElem? (i := 10) rfl)) (notFace_of_selects (args := #[]) (mvT hZ (hw _ (List.mem_of_getElem? (i := 12) rfl)))) (hw _ (List.mem_of_getElem? (i := 12) rfl)) (hw _ (List.mem_of_getElem? (i := 11) rfl)) (hw _ (List.mem_of_getElem? (i := 2) rfl)) (hw _ (List.mem_of_getElem? (i := 13) rfl)) (by decide) (a := b1) (argsL := [(.int (Int32.ofNat na))]) (rest := []) (rmA l Z a0 hw [] b1 na (0 : Int64) (0 : Int64) (0 : Int64) (0 : Int64) (fun _ => false) h1 n0 Z1 hna Bits.zero A1 F1_bits0 F1_bits1 F1_bits2 F1_bits3 gn_b1) e2 A1 pd_2 rfl (by rw [hml]; rfl) (W := 0) (by show 2 * 0 + _ ≤ _; exact Nat.le_of_eq rfl) (by decide) (by decide) (by decide) (by decide) (hb hby at_41) (Ls := #[.val (.int i0), .val (.int i1), .val (.int i2), .val (.int i3), .val (.int (Int32.ofNat na)), .val (.int (Int32.ofNat nb)), .val (.int (Int32.ofNat nr)), .val (.int (Int32.ofNat nq)), .val (.ref b1), .unset])
  generalize e3 : T3.heap = h3 at q3
  obtain ⟨rfl, N3q, K3q, E3q, y30, y31, y32, y33, F3q0, F3q1, F3q2, F3q3, B3⟩ := q3
  have N3 := Fr.app N2 N3q
  have Z3 : n0 ≤ h3.size := Nat.le_trans Z1 K3q.1
  refine Go.step (st3) ?_
  show Go _ _ _ _ _ _ _ T3 (mkF m 44 #[.val (.int i0), .val (.int i1), .val (.int i2), .val (.int i3), .val (.int (Int32.ofNat na)), .val (.int (Int32.ofNat nb)), .val (.int (Int32.ofNat nr)), .val (.int (Int32.ofNat nq)), .val (.ref b1), .unset] [])
  refine Go.step (fun t k => XS.aload X3.here hx rfl (hb hby at_44) rfl rfl k) ?_
  show Go _ _ _ _ _ _ _ T3 (mkF m 46 #[.val (.int i0), .val (.int i1), .val (.int i2), .val (.int i3), .val (.int (Int32.ofNat na)), .val (.int (Int32.ofNat nb)), .val (.int (Int32.ofNat nr)), .val (.int (Int32.ofNat nq)), .val (.ref b1), .unset] [(.ref b1)])
  refine Go.step (fun t k => XS.iload X3.here hx rfl (hb hby at_46) rfl k) ?_
  show Go _ _ _ _ _ _ _ T3 (mkF m 48 #[.val (.int i0), .val (.int i1), .val (.int i2), .val (.int i3), .val (.int (Int32.ofNat na)), .val (.int (Int32.ofNat nb)), .val (.int (Int32.ofNat nr)), .val (.int (Int32.ofNat nq)), .val (.ref b1), .unset] [(.int (Int32.ofNat nb)), (.ref b1)])
  obtain ⟨v4, T4, L4, X4, q4, st4⟩ := c_virt X3 hx hZ hown (y' := (⟨"com/example/touchtree/touchtree/node/PointerSet", "add", "(I)V"⟩ : MethodName)) (y := (⟨"com/example/touchtree/touchtree/node/PointerSet", "add", "(I)V"⟩ : MethodName)) (C := "com/example/touchtree/touchtree/node/PointerSet") (hw _ (List.mem_of_getElem? (i := 9) rfl)) (hw _ (List.mem_of_getElem? (i := 10) rfl)) (notFace_of_selects (args := #[]) (mvT hZ (hw _ (List.mem_of_getElem? (i := 12) rfl)))) (hw _ (List.mem_of_getElem? (i := 12) rfl)) (hw _ (List.mem_of_getElem? (i := 11) rfl)) (hw _ (List.mem_of_getElem? (i := 2) rfl)) (hw _ (List.mem_of_getElem? (i := 13) rfl)) (by decide) (a := b1) (argsL := [(.int (Int32.ofNat nb))]) (rest := []) (rmA l Z a0 hw [] b1 nb y30 y31 y32 y33 (ins (fun _ => false) na) h3 n0 Z3 hnb B3 E3q F3q0 F3q1 F3q2 F3q3 gn_b1) e3 E3q pd_2 rfl (by rw [hml]; rfl) (W := 0) (by show 2 * 0 + _ ≤ _; exact Nat.le_of_eq rfl) (by decide) (by decide) (by decide) (by decide) (hb hby at_48) (Ls := #[.val (.int i0), .val (.int i1), .val (.int i2), .val (.int i3), .val (.int (Int32.ofNat na)), .val (.int (Int32.ofNat nb)), .val (.int (Int32.ofNat nr)), .val (.int (Int32.ofNat nq)), .val (.ref b1), .unset])
  generalize e4 : T4.heap = h4 at q4
  obtain ⟨rfl, N4q, K4q, E4q, y40, y41, y42, y43, F4q0, F4q1, F4q2, F4q3, B4⟩ := q4
  have N4 := Fr.app N3 N4q
  have Z4 : n0 ≤ h4.size := Nat.le_trans Z3 K4q.1
  refine Go.step (st4) ?_
  show Go _ _ _ _ _ _ _ T4 (mkF m 51 #[.val (.int i0), .val (.int i1), .val (.int i2), .val (.int i3), .val (.int (Int32.ofNat na)), .val (.int (Int32.ofNat nb)), .val (.int (Int32.ofNat nr)), .val (.int (Int32.ofNat nq)), .val (.ref b1), .unset] [])
  refine Go.step (fun t k => XS.aload X4.here hx rfl (hb hby at_51) rfl rfl k) ?_
  show Go _ _ _ _ _ _ _ T4 (mkF m 53 #[.val (.int i0), .val (.int i1), .val (.int i2), .val (.int i3), .val (.int (Int32.ofNat na)), .val (.int (Int32.ofNat nb)), .val (.int (Int32.ofNat nr)), .val (.int (Int32.ofNat nq)), .val (.ref b1), .unset] [(.ref b1)])
  refine Go.step (fun t k => XS.iload X4.here hx rfl (hb hby at_53) rfl k) ?_
  show Go _ _ _ _ _ _ _ T4 (mkF m 55 #[.val (.int i0), .val (.int i1), .val (.int i2), .val (.int i3), .val (.int (Int32.ofNat na)), .val (.int (Int32.ofNat nb)), .val (.int (Int32.ofNat nr)), .val (.int (Int32.ofNat nq)), .val (.ref b1), .unset] [(.int (Int32.ofNat nr)), (.ref b1)])
  obtain ⟨v5, T5, L5, X5, q5, st5⟩ := c_virt X4 hx hZ hown (y' := (⟨"com/example/touchtree/touchtree/node/PointerSet", "remove", "(I)V"⟩ : MethodName)) (y := (⟨"com/example/touchtree/touchtree/node/PointerSet", "remove", "(I)V"⟩ : MethodName)) (C := "com/example/touchtree/touchtree/node/PointerSet") (hw _ (List.mem_of_getElem? (i := 16) rfl)) (hw _ (List.mem_of_getElem? (i := 17) rfl)) (notFace_of_selects (args := #[]) (mvT hZ (hw _ (List.mem_of_getElem? (i := 19) rfl)))) (hw _ (List.mem_of_getElem? (i := 19) rfl)) (hw _ (List.mem_of_getElem? (i := 18) rfl)) (hw _ (List.mem_of_getElem? (i := 2) rfl)) (hw _ (List.mem_of_getElem? (i := 20) rfl)) (by decide) (a := b1) (argsL := [(.int (Int32.ofNat nr))]) (rest := []) (rmR l Z a0 hw [] b1 nr y40 y41 y42 y43 (ins (ins (fun _ => false) na) nb) h4 n0 Z4 hnr B4 E4q F4q0 F4q1 F4q2 F4q3 gn_b1) e4 E4q pd_2 rfl (by rw [hml]; rfl) (W := 0) (by show 2 * 0 + _ ≤ _; exact Nat.le_of_eq rfl) (by decide) (by decide) (by decide) (by decide) (hb hby at_55) (Ls := #[.val (.int i0), .val (.int i1), .val (.int i2), .val (.int i3), .val (.int (Int32.ofNat na)), .val (.int (Int32.ofNat nb)), .val (.int (Int32.ofNat nr)), .val (.int (Int32.ofNat nq)), .val (.ref b1), .unset])
  generalize e5 : T5.heap = h5 at q5
  obtain ⟨rfl, N5q, K5q, E5q, y50, y51, y52, y53, F5q0, F5q1, F5q2, F5q3, B5⟩ := q5
  have N5 := Fr.app N4 N5q
  have Z5 : n0 ≤ h5.size := Nat.le_trans Z4 K5q.1
  refine Go.step (st5) ?_
  show Go _ _ _ _ _ _ _ T5 (mkF m 58 #[.val (.int i0), .val (.int i1), .val (.int i2), .val (.int i3), .val (.int (Int32.ofNat na)), .val (.int (Int32.ofNat nb)), .val (.int (Int32.ofNat nr)), .val (.int (Int32.ofNat nq)), .val (.ref b1), .unset] [])
  refine Go.step (fun t k => XS.aload X5.here hx rfl (hb hby at_58) rfl rfl k) ?_
  show Go _ _ _ _ _ _ _ T5 (mkF m 60 #[.val (.int i0), .val (.int i1), .val (.int i2), .val (.int i3), .val (.int (Int32.ofNat na)), .val (.int (Int32.ofNat nb)), .val (.int (Int32.ofNat nr)), .val (.int (Int32.ofNat nq)), .val (.ref b1), .unset] [(.ref b1)])
  refine Go.step (fun t k => XS.iload X5.here hx rfl (hb hby at_60) rfl k) ?_
  show Go _ _ _ _ _ _ _ T5 (mkF m 62 #[.val (.int i0), .val (.int i1), .val (.int i2), .val (.int i3), .val (.int (Int32.ofNat na)), .val (.int (Int32.ofNat nb)), .val (.int (Int32.ofNat nr)), .val (.int (Int32.ofNat nq)), .val (.ref b1), .unset] [(.int (Int32.ofNat nr)), (.ref b1)])
  obtain ⟨v6, T6, L6, X6, q6, st6⟩ := c_virt X5 hx hZ hown (y' := (⟨"com/example/touchtree/touchtree/node/PointerSet", "contains", "(I)Z"⟩ : MethodName)) (y := (⟨"com/example/touchtree/touchtree/node/PointerSet", "contains", "(I)Z"⟩ : MethodName)) (C := "com/example/touchtree/touchtree/node/PointerSet") (hw _ (List.mem_of_getElem? (i := 22) rfl)) (hw _ (List.mem_of_getElem? (i := 23) rfl)) (notFace_of_selects (args := #[]) (mvT hZ (hw _ (List.mem_of_getElem? (i := 25) rfl)))) (hw _ (List.mem_of_getElem? (i := 25) rfl)) (hw _ (List.mem_of_getElem? (i := 24) rfl)) (hw _ (List.mem_of_getElem? (i := 2) rfl)) (hw _ (List.mem_of_getElem? (i := 26) rfl)) (by decide) (a := b1) (argsL := [(.int (Int32.ofNat nr))]) (rest := []) (rmC l Z a0 hw [] b1 nr y50 y51 y52 y53 (del (ins (ins (fun _ => false) na) nb) nr) h5 n0 Z5 hnr B5 E5q F5q0 F5q1 F5q2 F5q3) e5 E5q pd_3 rfl (by rw [hml]; rfl) (W := 0) (by show 2 * 0 + _ ≤ _; exact Nat.le_of_eq rfl) (by decide) (by decide) (by decide) (by decide) (hb hby at_62) (Ls := #[.val (.int i0), .val (.int i1), .val (.int i2), .val (.int i3), .val (.int (Int32.ofNat na)), .val (.int (Int32.ofNat nb)), .val (.int (Int32.ofNat nr)), .val (.int (Int32.ofNat nq)), .val (.ref b1), .unset])
  obtain ⟨rfl, rfl, e6⟩ := q6
  have N6 := Fr.app N5 (Fr.nil n0)
  refine Go.step (st6) ?_
  show Go _ _ _ _ _ _ _ T6 (mkF m 65 #[.val (.int i0), .val (.int i1), .val (.int i2), .val (.int i3), .val (.int (Int32.ofNat na)), .val (.int (Int32.ofNat nb)), .val (.int (Int32.ofNat nr)), .val (.int (Int32.ofNat nq)), .val (.ref b1), .unset] [(.int (bi ((del (ins (ins (fun _ => false) na) nb) nr) nr = true)))])
  refine Go.step (fun t k => XS.ifNo X6.here hx rfl (hb hby at_65) rfl ((if0 _ _).trans (teq (bi_f (fun q => absurd ((own_q _ _ _ _).mp q).1 (not_not_intro rfl)))).2) k) ?_
  show Go _ _ _ _ _ _ _ T6 (mkF m 68 #[.val (.int i0), .val (.int i1), .val (.int i2), .val (.int i3), .val (.int (Int32.ofNat na)), .val (.int (Int32.ofNat nb)), .val (.int (Int32.ofNat nr)), .val (.int (Int32.ofNat nq)), .val (.ref b1), .unset] [])
  refine Go.step (fun t k => XS.iconst X6.here hx rfl (hb hby at_68) k) ?_
  show Go _ _ _ _ _ _ _ T6 (mkF m 69 #[.val (.int i0), .val (.int i1), .val (.int i2), .val (.int i3), .val (.int (Int32.ofNat na)), .val (.int (Int32.ofNat nb)), .val (.int (Int32.ofNat nr)), .val (.int (Int32.ofNat nq)), .val (.ref b1), .unset] [(.int (1 : Int32))])
  refine Go.step (fun t k => XS.goto X6.here hx rfl (pc0 := 69) (pc' := 73) rfl (hb hby at_69) (by decide) (by decide) k) ?_
  show Go _ _ _ _ _ _ _ T6 (mkF m 73 #[.val (.int i0), .val (.int i1), .val (.int i2), .val (.int i3), .val (.int (Int32.ofNat na)), .val (.int (Int32.ofNat nb)), .val (.int (Int32.ofNat nr)), .val (.int (Int32.ofNat nq)), .val (.ref b1), .unset] [(.int (1 : Int32))])
  refine Go.step (fun t k => XS.istore X6.here hx rfl (hb hby at_73) rfl (l' := #[.val (.int i0), .val (.int i1), .val (.int i2), .val (.int i3), .val (.int (Int32.ofNat na)), .val (.int (Int32.ofNat nb)), .val (.int (Int32.ofNat nr)), .val (.int (Int32.ofNat nq)), .val (.ref b1), .val (.int (1 : Int32))]) rfl k) ?_
  show Go _ _ _ _ _ _ _ T6 (mkF m 75 #[.val (.int i0), .val (.int i1), .val (.int i2), .val (.int i3), .val (.int (Int32.ofNat na)), .val (.int (Int32.ofNat nb)), .val (.int (Int32.ofNat nr)), .val (.int (Int32.ofNat nq)), .val (.ref b1), .val (.int (1 : Int32))] [])
  refine Go.step (fun t k => XS.iload X6.here hx rfl (hb hby at_75) rfl k) ?_
  show Go _ _ _ _ _ _ _ T6 (mkF m 77 #[.val (.int i0), .val (.int i1), .val (.int i2), .val (.int i3), .val (.int (Int32.ofNat na)), .val (.int (Int32.ofNat nb)), .val (.int (Int32.ofNat nr)), .val (.int (Int32.ofNat nq)), .val (.ref b1), .val (.int (1 : Int32))] [(.int (1 : Int32))])
  refine Go.step (fun t k => XS.ifNo X6.here hx rfl (hb hby at_77) rfl ((if0 _ _).trans (feq (by decide)).1) k) ?_
  show Go _ _ _ _ _ _ _ T6 (mkF m 80 #[.val (.int i0), .val (.int i1), .val (.int i2), .val (.int i3), .val (.int (Int32.ofNat na)), .val (.int (Int32.ofNat nb)), .val (.int (Int32.ofNat nr)), .val (.int (Int32.ofNat nq)), .val (.ref b1), .val (.int (1 : Int32))] [])
  refine Go.step (fun t k => XS.aload X6.here hx rfl (hb hby at_80) rfl rfl k) ?_
  show Go _ _ _ _ _ _ _ T6 (mkF m 82 #[.val (.int i0), .val (.int i1), .val (.int i2), .val (.int i3), .val (.int (Int32.ofNat na)), .val (.int (Int32.ofNat nb)), .val (.int (Int32.ofNat nr)), .val (.int (Int32.ofNat nq)), .val (.ref b1), .val (.int (1 : Int32))] [(.ref b1)])
  refine Go.step (fun t k => XS.iload X6.here hx rfl (hb hby at_82) rfl k) ?_
  show Go _ _ _ _ _ _ _ T6 (mkF m 84 #[.val (.int i0), .val (.int i1), .val (.int i2), .val (.int i3), .val (.int (Int32.ofNat na)), .val (.int (Int32.ofNat nb)), .val (.int (Int32.ofNat nr)), .val (.int (Int32.ofNat nq)), .val (.ref b1), .val (.int (1 : Int32))] [(.int (Int32.ofNat na)), (.ref b1)])
  obtain ⟨v7, T7, L7, X7, q7, st7⟩ := c_virt X6 hx hZ hown (y' := (⟨"com/example/touchtree/touchtree/node/PointerSet", "contains", "(I)Z"⟩ : MethodName)) (y := (⟨"com/example/touchtree/touchtree/node/PointerSet", "contains", "(I)Z"⟩ : MethodName)) (C := "com/example/touchtree/touchtree/node/PointerSet") (hw _ (List.mem_of_getElem? (i := 22) rfl)) (hw _ (List.mem_of_getElem? (i := 23) rfl)) (notFace_of_selects (args := #[]) (mvT hZ (hw _ (List.mem_of_getElem? (i := 25) rfl)))) (hw _ (List.mem_of_getElem? (i := 25) rfl)) (hw _ (List.mem_of_getElem? (i := 24) rfl)) (hw _ (List.mem_of_getElem? (i := 2) rfl)) (hw _ (List.mem_of_getElem? (i := 26) rfl)) (by decide) (a := b1) (argsL := [(.int (Int32.ofNat na))]) (rest := []) (rmC l Z a0 hw [] b1 na y50 y51 y52 y53 (del (ins (ins (fun _ => false) na) nb) nr) h5 n0 Z5 hna B5 E5q F5q0 F5q1 F5q2 F5q3) e6 E5q pd_3 rfl (by rw [hml]; rfl) (W := 0) (by show 2 * 0 + _ ≤ _; exact Nat.le_of_eq rfl) (by decide) (by decide) (by decide) (by decide) (hb hby at_84) (Ls := #[.val (.int i0), .val (.int i1), .val (.int i2), .val (.int i3), .val (.int (Int32.ofNat na)), .val (.int (Int32.ofNat nb)), .val (.int (Int32.ofNat nr)), .val (.int (Int32.ofNat nq)), .val (.ref b1), .val (.int (1 : Int32))])
  obtain ⟨rfl, rfl, e7⟩ := q7
  have N7 := Fr.app N6 (Fr.nil n0)
  refine Go.step (st7) ?_
  show Go _ _ _ _ _ _ _ T7 (mkF m 87 #[.val (.int i0), .val (.int i1), .val (.int i2), .val (.int i3), .val (.int (Int32.ofNat na)), .val (.int (Int32.ofNat nb)), .val (.int (Int32.ofNat nr)), .val (.int (Int32.ofNat nq)), .val (.ref b1), .val (.int (1 : Int32))] [(.int (bi ((del (ins (ins (fun _ => false) na) nb) nr) na = true)))])
  refine Go.step (fun t k => XS.iload X7.here hx rfl (hb hby at_87) rfl k) ?_
  show Go _ _ _ _ _ _ _ T7 (mkF m 89 #[.val (.int i0), .val (.int i1), .val (.int i2), .val (.int i3), .val (.int (Int32.ofNat na)), .val (.int (Int32.ofNat nb)), .val (.int (Int32.ofNat nr)), .val (.int (Int32.ofNat nq)), .val (.ref b1), .val (.int (1 : Int32))] [(.int (Int32.ofNat na)), (.int (bi ((del (ins (ins (fun _ => false) na) nb) nr) na = true)))])
  refine Go.step (fun t k => XS.iload X7.here hx rfl (hb hby at_89) rfl k) ?_
  show Go _ _ _ _ _ _ _ T7 (mkF m 91 #[.val (.int i0), .val (.int i1), .val (.int i2), .val (.int i3), .val (.int (Int32.ofNat na)), .val (.int (Int32.ofNat nb)), .val (.int (Int32.ofNat nr)), .val (.int (Int32.ofNat nq)), .val (.ref b1), .val (.int (1 : Int32))] [(.int (Int32.ofNat nr)), (.int (Int32.ofNat na)), (.int (bi ((del (ins (ins (fun _ => false) na) nb) nr) na = true)))])
  obtain ⟨q91, hq91⟩ : ∃ q : Bool, q = true ↔ (¬ ((Int32.ofNat na) = (Int32.ofNat nr))) := ⟨decide (¬ ((Int32.ofNat na) = (Int32.ofNat nr))), decide_eq_true_iff⟩
  have j91 : Go p e s below 16 128 (fun v h L => v = some (.int (1 : Int32)) ∧ Fr n0 L) T7 (mkF m 99 #[.val (.int i0), .val (.int i1), .val (.int i2), .val (.int i3), .val (.int (Int32.ofNat na)), .val (.int (Int32.ofNat nb)), .val (.int (Int32.ofNat nr)), .val (.int (Int32.ofNat nq)), .val (.ref b1), .val (.int (1 : Int32))] [(.int (bi (q91 = true))), (.int (bi ((del (ins (ins (fun _ => false) na) nb) nr) na = true)))]) := by
    refine Go.step (fun t k => XS.icmpNo X7.here hx rfl (hb hby at_99) rfl (teq (bi_congr (by rw [hq91, own_inj hna hnr, own_q]; exact ⟨fun q => q.1, fun q => ⟨q, Or.inl rfl⟩⟩))).2 k) ?_
    show Go _ _ _ _ _ _ _ T7 (mkF m 102 #[.val (.int i0), .val (.int i1), .val (.int i2), .val (.int i3), .val (.int (Int32.ofNat na)), .val (.int (Int32.ofNat nb)), .val (.int (Int32.ofNat nr)), .val (.int (Int32.ofNat nq)), .val (.ref b1), .val (.int (1 : Int32))] [])
    refine Go.step (fun t k => XS.iconst X7.here hx rfl (hb hby at_102) k) ?_
    show Go _ _ _ _ _ _ _ T7 (mkF m 103 #[.val (.int i0), .val (.int i1), .val (.int i2), .val (.int i3), .val (.int (Int32.ofNat na)), .val (.int (Int32.ofNat nb)), .val (.int (Int32.ofNat nr)), .val (.int (Int32.ofNat nq)), .val (.ref b1), .val (.int (1 : Int32))] [(.int (1 : Int32))])
    refine Go.step (fun t k => XS.goto X7.here hx rfl (pc0 := 103) (pc' := 107) rfl (hb hby at_103) (by decide) (by decide) k) ?_
    show Go _ _ _ _ _ _ _ T7 (mkF m 107 #[.val (.int i0), .val (.int i1), .val (.int i2), .val (.int i3), .val (.int (Int32.ofNat na)), .val (.int (Int32.ofNat nb)), .val (.int (Int32.ofNat nr)), .val (.int (Int32.ofNat nq)), .val (.ref b1), .val (.int (1 : Int32))] [(.int (1 : Int32))])
    refine Go.step (fun t k => XS.istore X7.here hx rfl (hb hby at_107) rfl (l' := #[.val (.int i0), .val (.int i1), .val (.int i2), .val (.int i3), .val (.int (Int32.ofNat na)), .val (.int (Int32.ofNat nb)), .val (.int (Int32.ofNat nr)), .val (.int (Int32.ofNat nq)), .val (.ref b1), .val (.int (1 : Int32))]) rfl k) ?_
    show Go _ _ _ _ _ _ _ T7 (mkF m 109 #[.val (.int i0), .val (.int i1), .val (.int i2), .val (.int i3), .val (.int (Int32.ofNat na)), .val (.int (Int32.ofNat nb)), .val (.int (Int32.ofNat nr)), .val (.int (Int32.ofNat nq)), .val (.ref b1), .val (.int (1 : Int32))] [])
    refine Go.step (fun t k => XS.iload X7.here hx rfl (hb hby at_109) rfl k) ?_
    show Go _ _ _ _ _ _ _ T7 (mkF m 111 #[.val (.int i0), .val (.int i1), .val (.int i2), .val (.int i3), .val (.int (Int32.ofNat na)), .val (.int (Int32.ofNat nb)), .val (.int (Int32.ofNat nr)), .val (.int (Int32.ofNat nq)), .val (.ref b1), .val (.int (1 : Int32))] [(.int (1 : Int32))])
    refine Go.step (fun t k => XS.ifNo X7.here hx rfl (hb hby at_111) rfl ((if0 _ _).trans (feq (by decide)).1) k) ?_
    show Go _ _ _ _ _ _ _ T7 (mkF m 114 #[.val (.int i0), .val (.int i1), .val (.int i2), .val (.int i3), .val (.int (Int32.ofNat na)), .val (.int (Int32.ofNat nb)), .val (.int (Int32.ofNat nr)), .val (.int (Int32.ofNat nq)), .val (.ref b1), .val (.int (1 : Int32))] [])
    refine Go.step (fun t k => XS.aload X7.here hx rfl (hb hby at_114) rfl rfl k) ?_
    show Go _ _ _ _ _ _ _ T7 (mkF m 116 #[.val (.int i0), .val (.int i1), .val (.int i2), .val (.int i3), .val (.int (Int32.ofNat na)), .val (.int (Int32.ofNat nb)), .val (.int (Int32.ofNat nr)), .val (.int (Int32.ofNat nq)), .val (.ref b1), .val (.int (1 : Int32))] [(.ref b1)])
    refine Go.step (fun t k => XS.iload X7.here hx rfl (hb hby at_116) rfl k) ?_
    show Go _ _ _ _ _ _ _ T7 (mkF m 118 #[.val (.int i0), .val (.int i1), .val (.int i2), .val (.int i3), .val (.int (Int32.ofNat na)), .val (.int (Int32.ofNat nb)), .val (.int (Int32.ofNat nr)), .val (.int (Int32.ofNat nq)), .val (.ref b1), .val (.int (1 : Int32))] [(.int (Int32.ofNat nb)), (.ref b1)])
    obtain ⟨v8, T8, L8, X8, q8, st8⟩ := c_virt X7 hx hZ hown (y' := (⟨"com/example/touchtree/touchtree/node/PointerSet", "contains", "(I)Z"⟩ : MethodName)) (y := (⟨"com/example/touchtree/touchtree/node/PointerSet", "contains", "(I)Z"⟩ : MethodName)) (C := "com/example/touchtree/touchtree/node/PointerSet") (hw _ (List.mem_of_getElem? (i := 22) rfl)) (hw _ (List.mem_of_getElem? (i := 23) rfl)) (notFace_of_selects (args := #[]) (mvT hZ (hw _ (List.mem_of_getElem? (i := 25) rfl)))) (hw _ (List.mem_of_getElem? (i := 25) rfl)) (hw _ (List.mem_of_getElem? (i := 24) rfl)) (hw _ (List.mem_of_getElem? (i := 2) rfl)) (hw _ (List.mem_of_getElem? (i := 26) rfl)) (by decide) (a := b1) (argsL := [(.int (Int32.ofNat nb))]) (rest := []) (rmC l Z a0 hw [] b1 nb y50 y51 y52 y53 (del (ins (ins (fun _ => false) na) nb) nr) h5 n0 Z5 hnb B5 E5q F5q0 F5q1 F5q2 F5q3) e7 E5q pd_3 rfl (by rw [hml]; rfl) (W := 0) (by show 2 * 0 + _ ≤ _; exact Nat.le_of_eq rfl) (by decide) (by decide) (by decide) (by decide) (hb hby at_118) (Ls := #[.val (.int i0), .val (.int i1), .val (.int i2), .val (.int i3), .val (.int (Int32.ofNat na)), .val (.int (Int32.ofNat nb)), .val (.int (Int32.ofNat nr)), .val (.int (Int32.ofNat nq)), .val (.ref b1), .val (.int (1 : Int32))])
    obtain ⟨rfl, rfl, e8⟩ := q8
    have N8 := Fr.app N7 (Fr.nil n0)
    refine Go.step (st8) ?_
    show Go _ _ _ _ _ _ _ T8 (mkF m 121 #[.val (.int i0), .val (.int i1), .val (.int i2), .val (.int i3), .val (.int (Int32.ofNat na)), .val (.int (Int32.ofNat nb)), .val (.int (Int32.ofNat nr)), .val (.int (Int32.ofNat nq)), .val (.ref b1), .val (.int (1 : Int32))] [(.int (bi ((del (ins (ins (fun _ => false) na) nb) nr) nb = true)))])
    refine Go.step (fun t k => XS.iload X8.here hx rfl (hb hby at_121) rfl k) ?_
    show Go _ _ _ _ _ _ _ T8 (mkF m 123 #[.val (.int i0), .val (.int i1), .val (.int i2), .val (.int i3), .val (.int (Int32.ofNat na)), .val (.int (Int32.ofNat nb)), .val (.int (Int32.ofNat nr)), .val (.int (Int32.ofNat nq)), .val (.ref b1), .val (.int (1 : Int32))] [(.int (Int32.ofNat nb)), (.int (bi ((del (ins (ins (fun _ => false) na) nb) nr) nb = true)))])
    refine Go.step (fun t k => XS.iload X8.here hx rfl (hb hby at_123) rfl k) ?_
    show Go _ _ _ _ _ _ _ T8 (mkF m 125 #[.val (.int i0), .val (.int i1), .val (.int i2), .val (.int i3), .val (.int (Int32.ofNat na)), .val (.int (Int32.ofNat nb)), .val (.int (Int32.ofNat nr)), .val (.int (Int32.ofNat nq)), .val (.ref b1), .val (.int (1 : Int32))] [(.int (Int32.ofNat nr)), (.int (Int32.ofNat nb)), (.int (bi ((del (ins (ins (fun _ => false) na) nb) nr) nb = true)))])
    obtain ⟨q125, hq125⟩ : ∃ q : Bool, q = true ↔ (¬ ((Int32.ofNat nb) = (Int32.ofNat nr))) := ⟨decide (¬ ((Int32.ofNat nb) = (Int32.ofNat nr))), decide_eq_true_iff⟩
    have j125 : Go p e s below 16 128 (fun v h L => v = some (.int (1 : Int32)) ∧ Fr n0 L) T8 (mkF m 133 #[.val (.int i0), .val (.int i1), .val (.int i2), .val (.int i3), .val (.int (Int32.ofNat na)), .val (.int (Int32.ofNat nb)), .val (.int (Int32.ofNat nr)), .val (.int (Int32.ofNat nq)), .val (.ref b1), .val (.int (1 : Int32))] [(.int (bi (q125 = true))), (.int (bi ((del (ins (ins (fun _ => false) na) nb) nr) nb = true)))]) := by
      refine Go.step (fun t k => XS.icmpNo X8.here hx rfl (hb hby at_133) rfl (teq (bi_congr (by rw [hq125, own_inj hnb hnr, own_q]; exact ⟨fun q => q.1, fun q => ⟨q, Or.inr rfl⟩⟩))).2 k) ?_
      show Go _ _ _ _ _ _ _ T8 (mkF m 136 #[.val (.int i0), .val (.int i1), .val (.int i2), .val (.int i3), .val (.int (Int32.ofNat na)), .val (.int (Int32.ofNat nb)), .val (.int (Int32.ofNat nr)), .val (.int (Int32.ofNat nq)), .val (.ref b1), .val (.int (1 : Int32))] [])
      refine Go.step (fun t k => XS.iconst X8.here hx rfl (hb hby at_136) k) ?_
      show Go _ _ _ _ _ _ _ T8 (mkF m 137 #[.val (.int i0), .val (.int i1), .val (.int i2), .val (.int i3), .val (.int (Int32.ofNat na)), .val (.int (Int32.ofNat nb)), .val (.int (Int32.ofNat nr)), .val (.int (Int32.ofNat nq)), .val (.ref b1), .val (.int (1 : Int32))] [(.int (1 : Int32))])
      refine Go.step (fun t k => XS.goto X8.here hx rfl (pc0 := 137) (pc' := 141) rfl (hb hby at_137) (by decide) (by decide) k) ?_
      show Go _ _ _ _ _ _ _ T8 (mkF m 141 #[.val (.int i0), .val (.int i1), .val (.int i2), .val (.int i3), .val (.int (Int32.ofNat na)), .val (.int (Int32.ofNat nb)), .val (.int (Int32.ofNat nr)), .val (.int (Int32.ofNat nq)), .val (.ref b1), .val (.int (1 : Int32))] [(.int (1 : Int32))])
      refine Go.step (fun t k => XS.istore X8.here hx rfl (hb hby at_141) rfl (l' := #[.val (.int i0), .val (.int i1), .val (.int i2), .val (.int i3), .val (.int (Int32.ofNat na)), .val (.int (Int32.ofNat nb)), .val (.int (Int32.ofNat nr)), .val (.int (Int32.ofNat nq)), .val (.ref b1), .val (.int (1 : Int32))]) rfl k) ?_
      show Go _ _ _ _ _ _ _ T8 (mkF m 143 #[.val (.int i0), .val (.int i1), .val (.int i2), .val (.int i3), .val (.int (Int32.ofNat na)), .val (.int (Int32.ofNat nb)), .val (.int (Int32.ofNat nr)), .val (.int (Int32.ofNat nq)), .val (.ref b1), .val (.int (1 : Int32))] [])
      refine Go.step (fun t k => XS.iload X8.here hx rfl (hb hby at_143) rfl k) ?_
      show Go _ _ _ _ _ _ _ T8 (mkF m 145 #[.val (.int i0), .val (.int i1), .val (.int i2), .val (.int i3), .val (.int (Int32.ofNat na)), .val (.int (Int32.ofNat nb)), .val (.int (Int32.ofNat nr)), .val (.int (Int32.ofNat nq)), .val (.ref b1), .val (.int (1 : Int32))] [(.int (1 : Int32))])
      refine Go.step (fun t k => XS.ifNo X8.here hx rfl (hb hby at_145) rfl ((if0 _ _).trans (feq (by decide)).1) k) ?_
      show Go _ _ _ _ _ _ _ T8 (mkF m 148 #[.val (.int i0), .val (.int i1), .val (.int i2), .val (.int i3), .val (.int (Int32.ofNat na)), .val (.int (Int32.ofNat nb)), .val (.int (Int32.ofNat nr)), .val (.int (Int32.ofNat nq)), .val (.ref b1), .val (.int (1 : Int32))] [])
      refine Go.step (fun t k => XS.aload X8.here hx rfl (hb hby at_148) rfl rfl k) ?_
      show Go _ _ _ _ _ _ _ T8 (mkF m 150 #[.val (.int i0), .val (.int i1), .val (.int i2), .val (.int i3), .val (.int (Int32.ofNat na)), .val (.int (Int32.ofNat nb)), .val (.int (Int32.ofNat nr)), .val (.int (Int32.ofNat nq)), .val (.ref b1), .val (.int (1 : Int32))] [(.ref b1)])
      refine Go.step (fun t k => XS.iload X8.here hx rfl (hb hby at_150) rfl k) ?_
      show Go _ _ _ _ _ _ _ T8 (mkF m 152 #[.val (.int i0), .val (.int i1), .val (.int i2), .val (.int i3), .val (.int (Int32.ofNat na)), .val (.int (Int32.ofNat nb)), .val (.int (Int32.ofNat nr)), .val (.int (Int32.ofNat nq)), .val (.ref b1), .val (.int (1 : Int32))] [(.int (Int32.ofNat nq)), (.ref b1)])
      obtain ⟨v9, T9, L9, X9, q9, st9⟩ := c_virt X8 hx hZ hown (y' := (⟨"com/example/touchtree/touchtree/node/PointerSet", "contains", "(I)Z"⟩ : MethodName)) (y := (⟨"com/example/touchtree/touchtree/node/PointerSet", "contains", "(I)Z"⟩ : MethodName)) (C := "com/example/touchtree/touchtree/node/PointerSet") (hw _ (List.mem_of_getElem? (i := 22) rfl)) (hw _ (List.mem_of_getElem? (i := 23) rfl)) (notFace_of_selects (args := #[]) (mvT hZ (hw _ (List.mem_of_getElem? (i := 25) rfl)))) (hw _ (List.mem_of_getElem? (i := 25) rfl)) (hw _ (List.mem_of_getElem? (i := 24) rfl)) (hw _ (List.mem_of_getElem? (i := 2) rfl)) (hw _ (List.mem_of_getElem? (i := 26) rfl)) (by decide) (a := b1) (argsL := [(.int (Int32.ofNat nq))]) (rest := []) (rmC l Z a0 hw [] b1 nq y50 y51 y52 y53 (del (ins (ins (fun _ => false) na) nb) nr) h5 n0 Z5 hnq B5 E5q F5q0 F5q1 F5q2 F5q3) e8 E5q pd_3 rfl (by rw [hml]; rfl) (W := 0) (by show 2 * 0 + _ ≤ _; exact Nat.le_of_eq rfl) (by decide) (by decide) (by decide) (by decide) (hb hby at_152) (Ls := #[.val (.int i0), .val (.int i1), .val (.int i2), .val (.int i3), .val (.int (Int32.ofNat na)), .val (.int (Int32.ofNat nb)), .val (.int (Int32.ofNat nr)), .val (.int (Int32.ofNat nq)), .val (.ref b1), .val (.int (1 : Int32))])
      obtain ⟨rfl, rfl, e9⟩ := q9
      have N9 := Fr.app N8 (Fr.nil n0)
      refine Go.step (st9) ?_
      show Go _ _ _ _ _ _ _ T9 (mkF m 155 #[.val (.int i0), .val (.int i1), .val (.int i2), .val (.int i3), .val (.int (Int32.ofNat na)), .val (.int (Int32.ofNat nb)), .val (.int (Int32.ofNat nr)), .val (.int (Int32.ofNat nq)), .val (.ref b1), .val (.int (1 : Int32))] [(.int (bi ((del (ins (ins (fun _ => false) na) nb) nr) nq = true)))])
      refine Go.step (fun t k => XS.iload X9.here hx rfl (hb hby at_155) rfl k) ?_
      show Go _ _ _ _ _ _ _ T9 (mkF m 157 #[.val (.int i0), .val (.int i1), .val (.int i2), .val (.int i3), .val (.int (Int32.ofNat na)), .val (.int (Int32.ofNat nb)), .val (.int (Int32.ofNat nr)), .val (.int (Int32.ofNat nq)), .val (.ref b1), .val (.int (1 : Int32))] [(.int (Int32.ofNat nq)), (.int (bi ((del (ins (ins (fun _ => false) na) nb) nr) nq = true)))])
      refine Go.step (fun t k => XS.iload X9.here hx rfl (hb hby at_157) rfl k) ?_
      show Go _ _ _ _ _ _ _ T9 (mkF m 159 #[.val (.int i0), .val (.int i1), .val (.int i2), .val (.int i3), .val (.int (Int32.ofNat na)), .val (.int (Int32.ofNat nb)), .val (.int (Int32.ofNat nr)), .val (.int (Int32.ofNat nq)), .val (.ref b1), .val (.int (1 : Int32))] [(.int (Int32.ofNat nr)), (.int (Int32.ofNat nq)), (.int (bi ((del (ins (ins (fun _ => false) na) nb) nr) nq = true)))])
      obtain ⟨q159, hq159⟩ : ∃ q : Bool, q = true ↔ (¬ ((Int32.ofNat nq) = (Int32.ofNat nr)) ∧ (((Int32.ofNat nq) = (Int32.ofNat na)) ∨ ((Int32.ofNat nq) = (Int32.ofNat nb)))) := ⟨decide (¬ ((Int32.ofNat nq) = (Int32.ofNat nr)) ∧ (((Int32.ofNat nq) = (Int32.ofNat na)) ∨ ((Int32.ofNat nq) = (Int32.ofNat nb)))), decide_eq_true_iff⟩
      have j159 : Go p e s below 16 128 (fun v h L => v = some (.int (1 : Int32)) ∧ Fr n0 L) T9 (mkF m 181 #[.val (.int i0), .val (.int i1), .val (.int i2), .val (.int i3), .val (.int (Int32.ofNat na)), .val (.int (Int32.ofNat nb)), .val (.int (Int32.ofNat nr)), .val (.int (Int32.ofNat nq)), .val (.ref b1), .val (.int (1 : Int32))] [(.int (bi (q159 = true))), (.int (bi ((del (ins (ins (fun _ => false) na) nb) nr) nq = true)))]) := by
        refine Go.step (fun t k => XS.icmpNo X9.here hx rfl (hb hby at_181) rfl (teq (bi_congr (by rw [hq159, own_inj hnq hnr, own_inj hnq hna, own_inj hnq hnb, own_q]))).2 k) ?_
        show Go _ _ _ _ _ _ _ T9 (mkF m 184 #[.val (.int i0), .val (.int i1), .val (.int i2), .val (.int i3), .val (.int (Int32.ofNat na)), .val (.int (Int32.ofNat nb)), .val (.int (Int32.ofNat nr)), .val (.int (Int32.ofNat nq)), .val (.ref b1), .val (.int (1 : Int32))] [])
        refine Go.step (fun t k => XS.iconst X9.here hx rfl (hb hby at_184) k) ?_
        show Go _ _ _ _ _ _ _ T9 (mkF m 185 #[.val (.int i0), .val (.int i1), .val (.int i2), .val (.int i3), .val (.int (Int32.ofNat na)), .val (.int (Int32.ofNat nb)), .val (.int (Int32.ofNat nr)), .val (.int (Int32.ofNat nq)), .val (.ref b1), .val (.int (1 : Int32))] [(.int (1 : Int32))])
        refine Go.step (fun t k => XS.goto X9.here hx rfl (pc0 := 185) (pc' := 189) rfl (hb hby at_185) (by decide) (by decide) k) ?_
        show Go _ _ _ _ _ _ _ T9 (mkF m 189 #[.val (.int i0), .val (.int i1), .val (.int i2), .val (.int i3), .val (.int (Int32.ofNat na)), .val (.int (Int32.ofNat nb)), .val (.int (Int32.ofNat nr)), .val (.int (Int32.ofNat nq)), .val (.ref b1), .val (.int (1 : Int32))] [(.int (1 : Int32))])
        refine Go.step (fun t k => XS.istore X9.here hx rfl (hb hby at_189) rfl (l' := #[.val (.int i0), .val (.int i1), .val (.int i2), .val (.int i3), .val (.int (Int32.ofNat na)), .val (.int (Int32.ofNat nb)), .val (.int (Int32.ofNat nr)), .val (.int (Int32.ofNat nq)), .val (.ref b1), .val (.int (1 : Int32))]) rfl k) ?_
        show Go _ _ _ _ _ _ _ T9 (mkF m 191 #[.val (.int i0), .val (.int i1), .val (.int i2), .val (.int i3), .val (.int (Int32.ofNat na)), .val (.int (Int32.ofNat nb)), .val (.int (Int32.ofNat nr)), .val (.int (Int32.ofNat nq)), .val (.ref b1), .val (.int (1 : Int32))] [])
        refine Go.step (fun t k => XS.iload X9.here hx rfl (hb hby at_191) rfl k) ?_
        show Go _ _ _ _ _ _ _ T9 (mkF m 193 #[.val (.int i0), .val (.int i1), .val (.int i2), .val (.int i3), .val (.int (Int32.ofNat na)), .val (.int (Int32.ofNat nb)), .val (.int (Int32.ofNat nr)), .val (.int (Int32.ofNat nq)), .val (.ref b1), .val (.int (1 : Int32))] [(.int (1 : Int32))])
        refine Go.step (fun t k => XS.ifNo X9.here hx rfl (hb hby at_193) rfl ((if0 _ _).trans (feq (by decide)).1) k) ?_
        show Go _ _ _ _ _ _ _ T9 (mkF m 196 #[.val (.int i0), .val (.int i1), .val (.int i2), .val (.int i3), .val (.int (Int32.ofNat na)), .val (.int (Int32.ofNat nb)), .val (.int (Int32.ofNat nr)), .val (.int (Int32.ofNat nq)), .val (.ref b1), .val (.int (1 : Int32))] [])
        refine Go.step (fun t k => XS.aload X9.here hx rfl (hb hby at_196) rfl rfl k) ?_
        show Go _ _ _ _ _ _ _ T9 (mkF m 198 #[.val (.int i0), .val (.int i1), .val (.int i2), .val (.int i3), .val (.int (Int32.ofNat na)), .val (.int (Int32.ofNat nb)), .val (.int (Int32.ofNat nr)), .val (.int (Int32.ofNat nq)), .val (.ref b1), .val (.int (1 : Int32))] [(.ref b1)])
        obtain ⟨v10, T10, L10, X10, q10, st10⟩ := c_virt X9 hx hZ hown (y' := (⟨"com/example/touchtree/touchtree/node/PointerSet", "isEmpty", "()Z"⟩ : MethodName)) (y := (⟨"com/example/touchtree/touchtree/node/PointerSet", "isEmpty", "()Z"⟩ : MethodName)) (C := "com/example/touchtree/touchtree/node/PointerSet") (hw _ (List.mem_of_getElem? (i := 31) rfl)) (hw _ (List.mem_of_getElem? (i := 32) rfl)) (notFace_of_selects (args := #[]) (mvT hZ (hw _ (List.mem_of_getElem? (i := 34) rfl)))) (hw _ (List.mem_of_getElem? (i := 34) rfl)) (hw _ (List.mem_of_getElem? (i := 33) rfl)) (hw _ (List.mem_of_getElem? (i := 2) rfl)) (hw _ (List.mem_of_getElem? (i := 35) rfl)) (by decide) (a := b1) (argsL := []) (rest := []) (rmE l Z a0 hw [] b1 0 y50 y51 y52 y53 (del (ins (ins (fun _ => false) na) nb) nr) h5 n0 Z5 (by decide) B5 E5q F5q0 F5q1 F5q2 F5q3) e9 E5q pd_4 rfl (by rw [hml]; rfl) (W := 0) (by show 2 * 0 + _ ≤ _; exact Nat.le_of_eq rfl) (by decide) (by decide) (by decide) (by decide) (hb hby at_198) (Ls := #[.val (.int i0), .val (.int i1), .val (.int i2), .val (.int i3), .val (.int (Int32.ofNat na)), .val (.int (Int32.ofNat nb)), .val (.int (Int32.ofNat nr)), .val (.int (Int32.ofNat nq)), .val (.ref b1), .val (.int (1 : Int32))])
        obtain ⟨rfl, rfl, e10⟩ := q10
        have N10 := Fr.app N9 (Fr.nil n0)
        refine Go.step (st10) ?_
        show Go _ _ _ _ _ _ _ T10 (mkF m 201 #[.val (.int i0), .val (.int i1), .val (.int i2), .val (.int i3), .val (.int (Int32.ofNat na)), .val (.int (Int32.ofNat nb)), .val (.int (Int32.ofNat nr)), .val (.int (Int32.ofNat nq)), .val (.ref b1), .val (.int (1 : Int32))] [(.int (bi (Emp (del (ins (ins (fun _ => false) na) nb) nr))))])
        refine Go.step (fun t k => XS.iload X10.here hx rfl (hb hby at_201) rfl k) ?_
        show Go _ _ _ _ _ _ _ T10 (mkF m 203 #[.val (.int i0), .val (.int i1), .val (.int i2), .val (.int i3), .val (.int (Int32.ofNat na)), .val (.int (Int32.ofNat nb)), .val (.int (Int32.ofNat nr)), .val (.int (Int32.ofNat nq)), .val (.ref b1), .val (.int (1 : Int32))] [(.int (Int32.ofNat na)), (.int (bi (Emp (del (ins (ins (fun _ => false) na) nb) nr))))])
        refine Go.step (fun t k => XS.iload X10.here hx rfl (hb hby at_203) rfl k) ?_
        show Go _ _ _ _ _ _ _ T10 (mkF m 205 #[.val (.int i0), .val (.int i1), .val (.int i2), .val (.int i3), .val (.int (Int32.ofNat na)), .val (.int (Int32.ofNat nb)), .val (.int (Int32.ofNat nr)), .val (.int (Int32.ofNat nq)), .val (.ref b1), .val (.int (1 : Int32))] [(.int (Int32.ofNat nr)), (.int (Int32.ofNat na)), (.int (bi (Emp (del (ins (ins (fun _ => false) na) nb) nr))))])
        obtain ⟨q205, hq205⟩ : ∃ q : Bool, q = true ↔ (((Int32.ofNat na) = (Int32.ofNat nr)) ∧ ((Int32.ofNat nb) = (Int32.ofNat nr))) := ⟨decide (((Int32.ofNat na) = (Int32.ofNat nr)) ∧ ((Int32.ofNat nb) = (Int32.ofNat nr))), decide_eq_true_iff⟩
        have j205 : Go p e s below 16 128 (fun v h L => v = some (.int (1 : Int32)) ∧ Fr n0 L) T10 (mkF m 220 #[.val (.int i0), .val (.int i1), .val (.int i2), .val (.int i3), .val (.int (Int32.ofNat na)), .val (.int (Int32.ofNat nb)), .val (.int (Int32.ofNat nr)), .val (.int (Int32.ofNat nq)), .val (.ref b1), .val (.int (1 : Int32))] [(.int (bi (q205 = true))), (.int (bi (Emp (del (ins (ins (fun _ => false) na) nb) nr))))]) := by
          refine Go.step (fun t k => XS.icmpNo X10.here hx rfl (hb hby at_220) rfl (teq (bi_congr (by rw [hq205, own_inj hna hnr, own_inj hnb hnr]; exact own_e na nb nr hna hnb))).2 k) ?_
          show Go _ _ _ _ _ _ _ T10 (mkF m 223 #[.val (.int i0), .val (.int i1), .val (.int i2), .val (.int i3), .val (.int (Int32.ofNat na)), .val (.int (Int32.ofNat nb)), .val (.int (Int32.ofNat nr)), .val (.int (Int32.ofNat nq)), .val (.ref b1), .val (.int (1 : Int32))] [])
          refine Go.step (fun t k => XS.iconst X10.here hx rfl (hb hby at_223) k) ?_
          show Go _ _ _ _ _ _ _ T10 (mkF m 224 #[.val (.int i0), .val (.int i1), .val (.int i2), .val (.int i3), .val (.int (Int32.ofNat na)), .val (.int (Int32.ofNat nb)), .val (.int (Int32.ofNat nr)), .val (.int (Int32.ofNat nq)), .val (.ref b1), .val (.int (1 : Int32))] [(.int (1 : Int32))])
          refine Go.step (fun t k => XS.goto X10.here hx rfl (pc0 := 224) (pc' := 228) rfl (hb hby at_224) (by decide) (by decide) k) ?_
          show Go _ _ _ _ _ _ _ T10 (mkF m 228 #[.val (.int i0), .val (.int i1), .val (.int i2), .val (.int i3), .val (.int (Int32.ofNat na)), .val (.int (Int32.ofNat nb)), .val (.int (Int32.ofNat nr)), .val (.int (Int32.ofNat nq)), .val (.ref b1), .val (.int (1 : Int32))] [(.int (1 : Int32))])
          refine Go.step (fun t k => XS.istore X10.here hx rfl (hb hby at_228) rfl (l' := #[.val (.int i0), .val (.int i1), .val (.int i2), .val (.int i3), .val (.int (Int32.ofNat na)), .val (.int (Int32.ofNat nb)), .val (.int (Int32.ofNat nr)), .val (.int (Int32.ofNat nq)), .val (.ref b1), .val (.int (1 : Int32))]) rfl k) ?_
          show Go _ _ _ _ _ _ _ T10 (mkF m 230 #[.val (.int i0), .val (.int i1), .val (.int i2), .val (.int i3), .val (.int (Int32.ofNat na)), .val (.int (Int32.ofNat nb)), .val (.int (Int32.ofNat nr)), .val (.int (Int32.ofNat nq)), .val (.ref b1), .val (.int (1 : Int32))] [])
          refine Go.step (fun t k => XS.iload X10.here hx rfl (hb hby at_230) rfl k) ?_
          show Go _ _ _ _ _ _ _ T10 (mkF m 232 #[.val (.int i0), .val (.int i1), .val (.int i2), .val (.int i3), .val (.int (Int32.ofNat na)), .val (.int (Int32.ofNat nb)), .val (.int (Int32.ofNat nr)), .val (.int (Int32.ofNat nq)), .val (.ref b1), .val (.int (1 : Int32))] [(.int (1 : Int32))])
          refine go_retN X10 hx (t := .boolean) hret (by simp) hlk (hb hby at_232) (w := (1 : Int32)) rfl ?_ (by decide) (by decide)
          try rw [e10]
          exact ⟨rfl, N10⟩
        by_cases c205_11 : (Int32.ofNat na) = (Int32.ofNat nr)
        · refine Go.step (fun t k => XS.icmpNo X10.here hx rfl (hb hby at_205) rfl (teq c205_11).2 k) ?_
          show Go _ _ _ _ _ _ _ T10 (mkF m 208 #[.val (.int i0), .val (.int i1), .val (.int i2), .val (.int i3), .val (.int (Int32.ofNat na)), .val (.int (Int32.ofNat nb)), .val (.int (Int32.ofNat nr)), .val (.int (Int32.ofNat nq)), .val (.ref b1), .val (.int (1 : Int32))] [(.int (bi (Emp (del (ins (ins (fun _ => false) na) nb) nr))))])
          refine Go.step (fun t k => XS.iload X10.here hx rfl (hb hby at_208) rfl k) ?_
          show Go _ _ _ _ _ _ _ T10 (mkF m 210 #[.val (.int i0), .val (.int i1), .val (.int i2), .val (.int i3), .val (.int (Int32.ofNat na)), .val (.int (Int32.ofNat nb)), .val (.int (Int32.ofNat nr)), .val (.int (Int32.ofNat nq)), .val (.ref b1), .val (.int (1 : Int32))] [(.int (Int32.ofNat nb)), (.int (bi (Emp (del (ins (ins (fun _ => false) na) nb) nr))))])
          refine Go.step (fun t k => XS.iload X10.here hx rfl (hb hby at_210) rfl k) ?_
          show Go _ _ _ _ _ _ _ T10 (mkF m 212 #[.val (.int i0), .val (.int i1), .val (.int i2), .val (.int i3), .val (.int (Int32.ofNat na)), .val (.int (Int32.ofNat nb)), .val (.int (Int32.ofNat nr)), .val (.int (Int32.ofNat nq)), .val (.ref b1), .val (.int (1 : Int32))] [(.int (Int32.ofNat nr)), (.int (Int32.ofNat nb)), (.int (bi (Emp (del (ins (ins (fun _ => false) na) nb) nr))))])
          by_cases c212_12 : (Int32.ofNat nb) = (Int32.ofNat nr)
          · refine Go.step (fun t k => XS.icmpNo X10.here hx rfl (hb hby at_212) rfl (teq c212_12).2 k) ?_
            show Go _ _ _ _ _ _ _ T10 (mkF m 215 #[.val (.int i0), .val (.int i1), .val (.int i2), .val (.int i3), .val (.int (Int32.ofNat na)), .val (.int (Int32.ofNat nb)), .val (.int (Int32.ofNat nr)), .val (.int (Int32.ofNat nq)), .val (.ref b1), .val (.int (1 : Int32))] [(.int (bi (Emp (del (ins (ins (fun _ => false) na) nb) nr))))])
            refine Go.step (fun t k => XS.iconst X10.here hx rfl (hb hby at_215) k) ?_
            show Go _ _ _ _ _ _ _ T10 (mkF m 216 #[.val (.int i0), .val (.int i1), .val (.int i2), .val (.int i3), .val (.int (Int32.ofNat na)), .val (.int (Int32.ofNat nb)), .val (.int (Int32.ofNat nr)), .val (.int (Int32.ofNat nq)), .val (.ref b1), .val (.int (1 : Int32))] [(.int (1 : Int32)), (.int (bi (Emp (del (ins (ins (fun _ => false) na) nb) nr))))])
            refine Go.step (fun t k => XS.goto X10.here hx rfl (pc0 := 216) (pc' := 220) rfl (hb hby at_216) (by decide) (by decide) k) ?_
            show Go _ _ _ _ _ _ _ T10 (mkF m 220 #[.val (.int i0), .val (.int i1), .val (.int i2), .val (.int i3), .val (.int (Int32.ofNat na)), .val (.int (Int32.ofNat nb)), .val (.int (Int32.ofNat nr)), .val (.int (Int32.ofNat nq)), .val (.ref b1), .val (.int (1 : Int32))] [(.int (1 : Int32)), (.int (bi (Emp (del (ins (ins (fun _ => false) na) nb) nr))))])
            rw [show (bi (q205 = true)) = (1 : Int32) from bi_t (hq205.mpr (by simp only [eq_true c205_11, eq_true c212_12, not_true_eq_false, not_false_eq_true, and_true, true_and, and_false, false_and, or_true, true_or, or_false, false_or, and_self, or_self]))] at j205
            exact j205
          · refine Go.step (fun t k => XS.icmpYes X10.here hx rfl (pc0 := 212) (pc' := 219) rfl (hb hby at_212) rfl (feq c212_12).2 (by decide) (by decide) k) ?_
            show Go _ _ _ _ _ _ _ T10 (mkF m 219 #[.val (.int i0), .val (.int i1), .val (.int i2), .val (.int i3), .val (.int (Int32.ofNat na)), .val (.int (Int32.ofNat nb)), .val (.int (Int32.ofNat nr)), .val (.int (Int32.ofNat nq)), .val (.ref b1), .val (.int (1 : Int32))] [(.int (bi (Emp (del (ins (ins (fun _ => false) na) nb) nr))))])
            refine Go.step (fun t k => XS.iconst X10.here hx rfl (hb hby at_219) k) ?_
            show Go _ _ _ _ _ _ _ T10 (mkF m 220 #[.val (.int i0), .val (.int i1), .val (.int i2), .val (.int i3), .val (.int (Int32.ofNat na)), .val (.int (Int32.ofNat nb)), .val (.int (Int32.ofNat nr)), .val (.int (Int32.ofNat nq)), .val (.ref b1), .val (.int (1 : Int32))] [(.int (0 : Int32)), (.int (bi (Emp (del (ins (ins (fun _ => false) na) nb) nr))))])
            rw [show (bi (q205 = true)) = (0 : Int32) from bi_f (mt hq205.mp (by simp only [eq_true c205_11, eq_false c212_12, not_true_eq_false, not_false_eq_true, and_true, true_and, and_false, false_and, or_true, true_or, or_false, false_or, and_self, or_self]))] at j205
            exact j205
        · refine Go.step (fun t k => XS.icmpYes X10.here hx rfl (pc0 := 205) (pc' := 219) rfl (hb hby at_205) rfl (feq c205_11).2 (by decide) (by decide) k) ?_
          show Go _ _ _ _ _ _ _ T10 (mkF m 219 #[.val (.int i0), .val (.int i1), .val (.int i2), .val (.int i3), .val (.int (Int32.ofNat na)), .val (.int (Int32.ofNat nb)), .val (.int (Int32.ofNat nr)), .val (.int (Int32.ofNat nq)), .val (.ref b1), .val (.int (1 : Int32))] [(.int (bi (Emp (del (ins (ins (fun _ => false) na) nb) nr))))])
          refine Go.step (fun t k => XS.iconst X10.here hx rfl (hb hby at_219) k) ?_
          show Go _ _ _ _ _ _ _ T10 (mkF m 220 #[.val (.int i0), .val (.int i1), .val (.int i2), .val (.int i3), .val (.int (Int32.ofNat na)), .val (.int (Int32.ofNat nb)), .val (.int (Int32.ofNat nr)), .val (.int (Int32.ofNat nq)), .val (.ref b1), .val (.int (1 : Int32))] [(.int (0 : Int32)), (.int (bi (Emp (del (ins (ins (fun _ => false) na) nb) nr))))])
          rw [show (bi (q205 = true)) = (0 : Int32) from bi_f (mt hq205.mp (by simp only [eq_false c205_11, not_true_eq_false, not_false_eq_true, and_true, true_and, and_false, false_and, or_true, true_or, or_false, false_or, and_self, or_self]))] at j205
          exact j205
      by_cases c159_13 : (Int32.ofNat nq) = (Int32.ofNat nr)
      · refine Go.step (fun t k => XS.icmpYes X9.here hx rfl (pc0 := 159) (pc' := 180) rfl (hb hby at_159) rfl (teq c159_13).1 (by decide) (by decide) k) ?_
        show Go _ _ _ _ _ _ _ T9 (mkF m 180 #[.val (.int i0), .val (.int i1), .val (.int i2), .val (.int i3), .val (.int (Int32.ofNat na)), .val (.int (Int32.ofNat nb)), .val (.int (Int32.ofNat nr)), .val (.int (Int32.ofNat nq)), .val (.ref b1), .val (.int (1 : Int32))] [(.int (bi ((del (ins (ins (fun _ => false) na) nb) nr) nq = true)))])
        refine Go.step (fun t k => XS.iconst X9.here hx rfl (hb hby at_180) k) ?_
        show Go _ _ _ _ _ _ _ T9 (mkF m 181 #[.val (.int i0), .val (.int i1), .val (.int i2), .val (.int i3), .val (.int (Int32.ofNat na)), .val (.int (Int32.ofNat nb)), .val (.int (Int32.ofNat nr)), .val (.int (Int32.ofNat nq)), .val (.ref b1), .val (.int (1 : Int32))] [(.int (0 : Int32)), (.int (bi ((del (ins (ins (fun _ => false) na) nb) nr) nq = true)))])
        rw [show (bi (q159 = true)) = (0 : Int32) from bi_f (mt hq159.mp (by simp only [eq_true c159_13, not_true_eq_false, not_false_eq_true, and_true, true_and, and_false, false_and, or_true, true_or, or_false, false_or, and_self, or_self]))] at j159
        exact j159
      · refine Go.step (fun t k => XS.icmpNo X9.here hx rfl (hb hby at_159) rfl (feq c159_13).1 k) ?_
        show Go _ _ _ _ _ _ _ T9 (mkF m 162 #[.val (.int i0), .val (.int i1), .val (.int i2), .val (.int i3), .val (.int (Int32.ofNat na)), .val (.int (Int32.ofNat nb)), .val (.int (Int32.ofNat nr)), .val (.int (Int32.ofNat nq)), .val (.ref b1), .val (.int (1 : Int32))] [(.int (bi ((del (ins (ins (fun _ => false) na) nb) nr) nq = true)))])
        refine Go.step (fun t k => XS.iload X9.here hx rfl (hb hby at_162) rfl k) ?_
        show Go _ _ _ _ _ _ _ T9 (mkF m 164 #[.val (.int i0), .val (.int i1), .val (.int i2), .val (.int i3), .val (.int (Int32.ofNat na)), .val (.int (Int32.ofNat nb)), .val (.int (Int32.ofNat nr)), .val (.int (Int32.ofNat nq)), .val (.ref b1), .val (.int (1 : Int32))] [(.int (Int32.ofNat nq)), (.int (bi ((del (ins (ins (fun _ => false) na) nb) nr) nq = true)))])
        refine Go.step (fun t k => XS.iload X9.here hx rfl (hb hby at_164) rfl k) ?_
        show Go _ _ _ _ _ _ _ T9 (mkF m 166 #[.val (.int i0), .val (.int i1), .val (.int i2), .val (.int i3), .val (.int (Int32.ofNat na)), .val (.int (Int32.ofNat nb)), .val (.int (Int32.ofNat nr)), .val (.int (Int32.ofNat nq)), .val (.ref b1), .val (.int (1 : Int32))] [(.int (Int32.ofNat na)), (.int (Int32.ofNat nq)), (.int (bi ((del (ins (ins (fun _ => false) na) nb) nr) nq = true)))])
        by_cases c166_14 : (Int32.ofNat nq) = (Int32.ofNat na)
        · refine Go.step (fun t k => XS.icmpYes X9.here hx rfl (pc0 := 166) (pc' := 176) rfl (hb hby at_166) rfl (teq c166_14).1 (by decide) (by decide) k) ?_
          show Go _ _ _ _ _ _ _ T9 (mkF m 176 #[.val (.int i0), .val (.int i1), .val (.int i2), .val (.int i3), .val (.int (Int32.ofNat na)), .val (.int (Int32.ofNat nb)), .val (.int (Int32.ofNat nr)), .val (.int (Int32.ofNat nq)), .val (.ref b1), .val (.int (1 : Int32))] [(.int (bi ((del (ins (ins (fun _ => false) na) nb) nr) nq = true)))])
          refine Go.step (fun t k => XS.iconst X9.here hx rfl (hb hby at_176) k) ?_
          show Go _ _ _ _ _ _ _ T9 (mkF m 177 #[.val (.int i0), .val (.int i1), .val (.int i2), .val (.int i3), .val (.int (Int32.ofNat na)), .val (.int (Int32.ofNat nb)), .val (.int (Int32.ofNat nr)), .val (.int (Int32.ofNat nq)), .val (.ref b1), .val (.int (1 : Int32))] [(.int (1 : Int32)), (.int (bi ((del (ins (ins (fun _ => false) na) nb) nr) nq = true)))])
          refine Go.step (fun t k => XS.goto X9.here hx rfl (pc0 := 177) (pc' := 181) rfl (hb hby at_177) (by decide) (by decide) k) ?_
          show Go _ _ _ _ _ _ _ T9 (mkF m 181 #[.val (.int i0), .val (.int i1), .val (.int i2), .val (.int i3), .val (.int (Int32.ofNat na)), .val (.int (Int32.ofNat nb)), .val (.int (Int32.ofNat nr)), .val (.int (Int32.ofNat nq)), .val (.ref b1), .val (.int (1 : Int32))] [(.int (1 : Int32)), (.int (bi ((del (ins (ins (fun _ => false) na) nb) nr) nq = true)))])
          rw [show (bi (q159 = true)) = (1 : Int32) from bi_t (hq159.mpr (by simp only [eq_false c159_13, eq_true c166_14, not_true_eq_false, not_false_eq_true, and_true, true_and, and_false, false_and, or_true, true_or, or_false, false_or, and_self, or_self]))] at j159
          exact j159
        · refine Go.step (fun t k => XS.icmpNo X9.here hx rfl (hb hby at_166) rfl (feq c166_14).1 k) ?_
          show Go _ _ _ _ _ _ _ T9 (mkF m 169 #[.val (.int i0), .val (.int i1), .val (.int i2), .val (.int i3), .val (.int (Int32.ofNat na)), .val (.int (Int32.ofNat nb)), .val (.int (Int32.ofNat nr)), .val (.int (Int32.ofNat nq)), .val (.ref b1), .val (.int (1 : Int32))] [(.int (bi ((del (ins (ins (fun _ => false) na) nb) nr) nq = true)))])
          refine Go.step (fun t k => XS.iload X9.here hx rfl (hb hby at_169) rfl k) ?_
          show Go _ _ _ _ _ _ _ T9 (mkF m 171 #[.val (.int i0), .val (.int i1), .val (.int i2), .val (.int i3), .val (.int (Int32.ofNat na)), .val (.int (Int32.ofNat nb)), .val (.int (Int32.ofNat nr)), .val (.int (Int32.ofNat nq)), .val (.ref b1), .val (.int (1 : Int32))] [(.int (Int32.ofNat nq)), (.int (bi ((del (ins (ins (fun _ => false) na) nb) nr) nq = true)))])
          refine Go.step (fun t k => XS.iload X9.here hx rfl (hb hby at_171) rfl k) ?_
          show Go _ _ _ _ _ _ _ T9 (mkF m 173 #[.val (.int i0), .val (.int i1), .val (.int i2), .val (.int i3), .val (.int (Int32.ofNat na)), .val (.int (Int32.ofNat nb)), .val (.int (Int32.ofNat nr)), .val (.int (Int32.ofNat nq)), .val (.ref b1), .val (.int (1 : Int32))] [(.int (Int32.ofNat nb)), (.int (Int32.ofNat nq)), (.int (bi ((del (ins (ins (fun _ => false) na) nb) nr) nq = true)))])
          by_cases c173_15 : (Int32.ofNat nq) = (Int32.ofNat nb)
          · refine Go.step (fun t k => XS.icmpNo X9.here hx rfl (hb hby at_173) rfl (teq c173_15).2 k) ?_
            show Go _ _ _ _ _ _ _ T9 (mkF m 176 #[.val (.int i0), .val (.int i1), .val (.int i2), .val (.int i3), .val (.int (Int32.ofNat na)), .val (.int (Int32.ofNat nb)), .val (.int (Int32.ofNat nr)), .val (.int (Int32.ofNat nq)), .val (.ref b1), .val (.int (1 : Int32))] [(.int (bi ((del (ins (ins (fun _ => false) na) nb) nr) nq = true)))])
            refine Go.step (fun t k => XS.iconst X9.here hx rfl (hb hby at_176) k) ?_
            show Go _ _ _ _ _ _ _ T9 (mkF m 177 #[.val (.int i0), .val (.int i1), .val (.int i2), .val (.int i3), .val (.int (Int32.ofNat na)), .val (.int (Int32.ofNat nb)), .val (.int (Int32.ofNat nr)), .val (.int (Int32.ofNat nq)), .val (.ref b1), .val (.int (1 : Int32))] [(.int (1 : Int32)), (.int (bi ((del (ins (ins (fun _ => false) na) nb) nr) nq = true)))])
            refine Go.step (fun t k => XS.goto X9.here hx rfl (pc0 := 177) (pc' := 181) rfl (hb hby at_177) (by decide) (by decide) k) ?_
            show Go _ _ _ _ _ _ _ T9 (mkF m 181 #[.val (.int i0), .val (.int i1), .val (.int i2), .val (.int i3), .val (.int (Int32.ofNat na)), .val (.int (Int32.ofNat nb)), .val (.int (Int32.ofNat nr)), .val (.int (Int32.ofNat nq)), .val (.ref b1), .val (.int (1 : Int32))] [(.int (1 : Int32)), (.int (bi ((del (ins (ins (fun _ => false) na) nb) nr) nq = true)))])
            rw [show (bi (q159 = true)) = (1 : Int32) from bi_t (hq159.mpr (by simp only [eq_false c159_13, eq_false c166_14, eq_true c173_15, not_true_eq_false, not_false_eq_true, and_true, true_and, and_false, false_and, or_true, true_or, or_false, false_or, and_self, or_self]))] at j159
            exact j159
          · refine Go.step (fun t k => XS.icmpYes X9.here hx rfl (pc0 := 173) (pc' := 180) rfl (hb hby at_173) rfl (feq c173_15).2 (by decide) (by decide) k) ?_
            show Go _ _ _ _ _ _ _ T9 (mkF m 180 #[.val (.int i0), .val (.int i1), .val (.int i2), .val (.int i3), .val (.int (Int32.ofNat na)), .val (.int (Int32.ofNat nb)), .val (.int (Int32.ofNat nr)), .val (.int (Int32.ofNat nq)), .val (.ref b1), .val (.int (1 : Int32))] [(.int (bi ((del (ins (ins (fun _ => false) na) nb) nr) nq = true)))])
            refine Go.step (fun t k => XS.iconst X9.here hx rfl (hb hby at_180) k) ?_
            show Go _ _ _ _ _ _ _ T9 (mkF m 181 #[.val (.int i0), .val (.int i1), .val (.int i2), .val (.int i3), .val (.int (Int32.ofNat na)), .val (.int (Int32.ofNat nb)), .val (.int (Int32.ofNat nr)), .val (.int (Int32.ofNat nq)), .val (.ref b1), .val (.int (1 : Int32))] [(.int (0 : Int32)), (.int (bi ((del (ins (ins (fun _ => false) na) nb) nr) nq = true)))])
            rw [show (bi (q159 = true)) = (0 : Int32) from bi_f (mt hq159.mp (by simp only [eq_false c159_13, eq_false c166_14, eq_false c173_15, not_true_eq_false, not_false_eq_true, and_true, true_and, and_false, false_and, or_true, true_or, or_false, false_or, and_self, or_self]))] at j159
            exact j159
    by_cases c125_16 : (Int32.ofNat nb) = (Int32.ofNat nr)
    · refine Go.step (fun t k => XS.icmpYes X8.here hx rfl (pc0 := 125) (pc' := 132) rfl (hb hby at_125) rfl (teq c125_16).1 (by decide) (by decide) k) ?_
      show Go _ _ _ _ _ _ _ T8 (mkF m 132 #[.val (.int i0), .val (.int i1), .val (.int i2), .val (.int i3), .val (.int (Int32.ofNat na)), .val (.int (Int32.ofNat nb)), .val (.int (Int32.ofNat nr)), .val (.int (Int32.ofNat nq)), .val (.ref b1), .val (.int (1 : Int32))] [(.int (bi ((del (ins (ins (fun _ => false) na) nb) nr) nb = true)))])
      refine Go.step (fun t k => XS.iconst X8.here hx rfl (hb hby at_132) k) ?_
      show Go _ _ _ _ _ _ _ T8 (mkF m 133 #[.val (.int i0), .val (.int i1), .val (.int i2), .val (.int i3), .val (.int (Int32.ofNat na)), .val (.int (Int32.ofNat nb)), .val (.int (Int32.ofNat nr)), .val (.int (Int32.ofNat nq)), .val (.ref b1), .val (.int (1 : Int32))] [(.int (0 : Int32)), (.int (bi ((del (ins (ins (fun _ => false) na) nb) nr) nb = true)))])
      rw [show (bi (q125 = true)) = (0 : Int32) from bi_f (mt hq125.mp (by simp only [eq_true c125_16, not_true_eq_false, not_false_eq_true, and_true, true_and, and_false, false_and, or_true, true_or, or_false, false_or, and_self, or_self]))] at j125
      exact j125
    · refine Go.step (fun t k => XS.icmpNo X8.here hx rfl (hb hby at_125) rfl (feq c125_16).1 k) ?_
      show Go _ _ _ _ _ _ _ T8 (mkF m 128 #[.val (.int i0), .val (.int i1), .val (.int i2), .val (.int i3), .val (.int (Int32.ofNat na)), .val (.int (Int32.ofNat nb)), .val (.int (Int32.ofNat nr)), .val (.int (Int32.ofNat nq)), .val (.ref b1), .val (.int (1 : Int32))] [(.int (bi ((del (ins (ins (fun _ => false) na) nb) nr) nb = true)))])
      refine Go.step (fun t k => XS.iconst X8.here hx rfl (hb hby at_128) k) ?_
      show Go _ _ _ _ _ _ _ T8 (mkF m 129 #[.val (.int i0), .val (.int i1), .val (.int i2), .val (.int i3), .val (.int (Int32.ofNat na)), .val (.int (Int32.ofNat nb)), .val (.int (Int32.ofNat nr)), .val (.int (Int32.ofNat nq)), .val (.ref b1), .val (.int (1 : Int32))] [(.int (1 : Int32)), (.int (bi ((del (ins (ins (fun _ => false) na) nb) nr) nb = true)))])
      refine Go.step (fun t k => XS.goto X8.here hx rfl (pc0 := 129) (pc' := 133) rfl (hb hby at_129) (by decide) (by decide) k) ?_
      show Go _ _ _ _ _ _ _ T8 (mkF m 133 #[.val (.int i0), .val (.int i1), .val (.int i2), .val (.int i3), .val (.int (Int32.ofNat na)), .val (.int (Int32.ofNat nb)), .val (.int (Int32.ofNat nr)), .val (.int (Int32.ofNat nq)), .val (.ref b1), .val (.int (1 : Int32))] [(.int (1 : Int32)), (.int (bi ((del (ins (ins (fun _ => false) na) nb) nr) nb = true)))])
      rw [show (bi (q125 = true)) = (1 : Int32) from bi_t (hq125.mpr (by simp only [eq_false c125_16, not_true_eq_false, not_false_eq_true, and_true, true_and, and_false, false_and, or_true, true_or, or_false, false_or, and_self, or_self]))] at j125
      exact j125
  by_cases c91_17 : (Int32.ofNat na) = (Int32.ofNat nr)
  · refine Go.step (fun t k => XS.icmpYes X7.here hx rfl (pc0 := 91) (pc' := 98) rfl (hb hby at_91) rfl (teq c91_17).1 (by decide) (by decide) k) ?_
    show Go _ _ _ _ _ _ _ T7 (mkF m 98 #[.val (.int i0), .val (.int i1), .val (.int i2), .val (.int i3), .val (.int (Int32.ofNat na)), .val (.int (Int32.ofNat nb)), .val (.int (Int32.ofNat nr)), .val (.int (Int32.ofNat nq)), .val (.ref b1), .val (.int (1 : Int32))] [(.int (bi ((del (ins (ins (fun _ => false) na) nb) nr) na = true)))])
    refine Go.step (fun t k => XS.iconst X7.here hx rfl (hb hby at_98) k) ?_
    show Go _ _ _ _ _ _ _ T7 (mkF m 99 #[.val (.int i0), .val (.int i1), .val (.int i2), .val (.int i3), .val (.int (Int32.ofNat na)), .val (.int (Int32.ofNat nb)), .val (.int (Int32.ofNat nr)), .val (.int (Int32.ofNat nq)), .val (.ref b1), .val (.int (1 : Int32))] [(.int (0 : Int32)), (.int (bi ((del (ins (ins (fun _ => false) na) nb) nr) na = true)))])
    rw [show (bi (q91 = true)) = (0 : Int32) from bi_f (mt hq91.mp (by simp only [eq_true c91_17, not_true_eq_false, not_false_eq_true, and_true, true_and, and_false, false_and, or_true, true_or, or_false, false_or, and_self, or_self]))] at j91
    exact j91
  · refine Go.step (fun t k => XS.icmpNo X7.here hx rfl (hb hby at_91) rfl (feq c91_17).1 k) ?_
    show Go _ _ _ _ _ _ _ T7 (mkF m 94 #[.val (.int i0), .val (.int i1), .val (.int i2), .val (.int i3), .val (.int (Int32.ofNat na)), .val (.int (Int32.ofNat nb)), .val (.int (Int32.ofNat nr)), .val (.int (Int32.ofNat nq)), .val (.ref b1), .val (.int (1 : Int32))] [(.int (bi ((del (ins (ins (fun _ => false) na) nb) nr) na = true)))])
    refine Go.step (fun t k => XS.iconst X7.here hx rfl (hb hby at_94) k) ?_
    show Go _ _ _ _ _ _ _ T7 (mkF m 95 #[.val (.int i0), .val (.int i1), .val (.int i2), .val (.int i3), .val (.int (Int32.ofNat na)), .val (.int (Int32.ofNat nb)), .val (.int (Int32.ofNat nr)), .val (.int (Int32.ofNat nq)), .val (.ref b1), .val (.int (1 : Int32))] [(.int (1 : Int32)), (.int (bi ((del (ins (ins (fun _ => false) na) nb) nr) na = true)))])
    refine Go.step (fun t k => XS.goto X7.here hx rfl (pc0 := 95) (pc' := 99) rfl (hb hby at_95) (by decide) (by decide) k) ?_
    show Go _ _ _ _ _ _ _ T7 (mkF m 99 #[.val (.int i0), .val (.int i1), .val (.int i2), .val (.int i3), .val (.int (Int32.ofNat na)), .val (.int (Int32.ofNat nb)), .val (.int (Int32.ofNat nr)), .val (.int (Int32.ofNat nq)), .val (.ref b1), .val (.int (1 : Int32))] [(.int (1 : Int32)), (.int (bi ((del (ins (ins (fun _ => false) na) nb) nr) na = true)))])
    rw [show (bi (q91 = true)) = (1 : Int32) from bi_t (hq91.mpr (by simp only [eq_false c91_17, not_true_eq_false, not_false_eq_true, and_true, true_and, and_false, false_and, or_true, true_or, or_false, false_or, and_self, or_self]))] at j91
    exact j91
set_option maxRecDepth 65536 in
set_option maxHeartbeats 40000000 in
theorem comes_1 {Post : Tables → Env → Array Value → State → Outcome → State → Prop} (hpost : ∀ tb e args s v u, (limb_1_1.after args s (.returned v) u = true ∧ limb_1_2.after args s (.returned v) u = true ∧ True) → FrameEnd s (.returned v) u (Jvm.fieldLocs frame_1_writes args s ++ Jvm.arrayLocs frame_1_arrays args s ++ Jvm.staticLocs frame_1_statics s) 16 128 → Post tb e args s (.returned v) u) :
    ArmFor flags0 classFile x code maxLocals ret World_1 tables_1 room_1 Calls_1 rest_1 Pre_1 Post := by
  intro l hfl _ _ p e ha hc hk s m args below hf hA hF happ hP
  obtain ⟨hcalls, hrest, hpre⟩ := hP
  obtain ⟨-, -, -, hnamed, -, -, -, hat⟩ := (Spec.applies_iff hf).mp happ
  obtain ⟨hg, hn⟩ := and_e (Cond.before_iff.mp (show (Jvm.Cond.and given_1 narrow_1).before args s = true from hpre))
  obtain ⟨hcnt, hg1⟩ := and_e hg
  obtain ⟨ha0, hg2⟩ := and_e hg1
  obtain ⟨ha1, hg3⟩ := and_e hg2
  obtain ⟨ha2, hg4⟩ := and_e hg3
  obtain ⟨w0, w1, w2, w3, rfl⟩ : ∃ w0 w1 w2 w3 : Value, args = #[w0, w1, w2, w3] := by
    have hs : args.size = 4 := by simpa [Cond.value, given_1] using hcnt
    obtain ⟨L⟩ := args
    match L, hs with
    | [w0, w1, w2, w3], _ => exact ⟨w0, w1, w2, w3, rfl⟩
  have hw := fun d (hd : d ∈ tables_1) => atoms_spec (ws := Jvm.Cond.code x code maxLocals ret :: tables_1) hat d (List.mem_cons_of_mem _ hd)
  have hfit : Fit s := fun {y c} hc i hi => by
    obtain ⟨ha, rfl⟩ := Array.getElem?_eq_some_iff.mp hc
    have q := List.all_eq_true.mp ((Array.all_eq_true_iff_forall_mem.mp hF) _ (Array.getElem_mem ha)) i (List.mem_range.mpr hi)
    simpa [Array.getElem?_eq_getElem hi] using q
  obtain ⟨i0, ei0⟩ := is_v ha0
  obtain rfl : w0 = (.int i0) := Option.some.inj ei0
  obtain ⟨i1, ei1⟩ := is_v ha1
  obtain rfl : w1 = (.int i1) := Option.some.inj ei1
  obtain ⟨i2, ei2⟩ := is_v ha2
  obtain rfl : w2 = (.int i2) := Option.some.inj ei2
  obtain ⟨i3, ei3⟩ := is_v hg4
  obtain rfl : w3 = (.int i3) := Option.some.inj ei3
  obtain ⟨n, o, h1, h2, h3, _, L, rfl, ⟨rfl, N⟩, hq⟩ := rm0 l s _ hw tables_1 i0 i1 i2 i3 s.heap s.heap.size (Nat.le_refl _)  p e ha hc hk s m _ below hf ((Spec.applies_iff_loose hf).mp happ).1 ⟨rfl, State.Warmed39.refl s, rfl⟩ trivial
  refine ⟨n, _, h1, h2, h3, hpost _ _ _ _ _ _ ⟨Cond.after_iff.mpr rfl, Cond.after_iff.mpr (eq_i res_at (Term.int_eval (1)) rfl), trivial⟩ ⟨hq.1, hq.2.1, (hq.2.2.sift fun y hy => Or.inr (N y hy)).mono (by decide) (by decide)⟩⟩
theorem main_1_1 : Claimed_1_1 := comes_1 fun _ _ _ _ _ _ h hF => ⟨h.1, hF⟩
theorem main_1_2 : Claimed_1_2 := comes_1 fun _ _ _ _ _ _ h hF => ⟨h.2.1, hF⟩
end Jvm.Pilot.@@N@@
namespace Jvm.Pilot.@@N@@
open Jvm Jvm.ClassFile Sem Op Lib Jvm.Free Jvm.Stand Jvm.Pilot.@@N@@.Jvm.D
/-! MADE BY PROGRAM (witnessworld.py) out of the Statement's table words and the real class files: 9 classes; the members and pool entries that the words name. The judged class is class 1, her method 1. -/
namespace start1
open Jvm.ClassFile
def u (s : String) : CpInfo := .utf8 (stringToUtf16 s)
/-- a pool by its gaps: so many unusable entries, then the entry; so many at the end -/
def gap : Nat → List CpInfo → List CpInfo
  | 0, r => r
  | n + 1, r => .unusable :: gap n r
def poolList (es : List (Nat × CpInfo)) (last : Nat) : List CpInfo := es.foldr (fun e r => gap e.1 (e.2 :: r)) (gap last [])
def pool (es : List (Nat × CpInfo)) (last : Nat) : Array CpInfo := ⟨poolList es last⟩
def fileOf (pool : Array CpInfo) (this : Nat) (attrs : Array Attribute := #[]) (ms : Array MethodInfo := #[]) (fl : Nat := 33) (sup : Nat := 0) (ifs : Array Nat := #[]) (fds : Array FieldInfo := #[]) : ClassFile where
  minorVersion := 0
  majorVersion := 65
  constantPool := pool
  accessFlags := fl
  thisClass := this
  superClass := sup
  interfaces := ifs
  fields := fds
  methods := ms
  attributes := attrs
def plain (name : String) (sup : Option ClassId) : Class where
  name := name
  kind := .ordinary
  loader := none
  accessFlags := 33
  super := sup
  interfaces := #[]
  cf := none
  fields := #[]
  methods := #[]
  instanceTypes := #[]
  staticTypes := #[]
  resolved := #[]
  callSites := []
  init := .initialized
  statics := none
  mirror := none

def pool0 : Array CpInfo := pool [(5, u "<init>"), (0, u "()V"), (1, .class_ 10), (1, u "java/lang/Object")] 113

def k0c0 : Code := { maxStack := 0, maxLocals := 1, code := object_method_1_code, exceptionTable := #[], attributes := #[] }
def k0m0 : Method := { name := "<init>", desc := "()V", sig := { parameters := [], returnType := none }, accessFlags := 1, code := some k0c0 }
/-- java/lang/Object -/
def k0 : Class := { plain "java/lang/Object" none with
  accessFlags := 33
  interfaces := #[]
  cf := some (fileOf pool0 8 #[] #[{ accessFlags := 1, nameIndex := 5, descriptorIndex := 6, attributes := #[] }] 33 0 #[] #[])
  fields := #[]
  methods := #[k0m0]
  instanceTypes := #[]
  staticTypes := #[]
  resolved := Array.replicate 124 none
  statics := none }

def pool1 : Array CpInfo := pool [(2, .class_ 4), (0, .nameAndType 5 6), (0, u "java/lang/Object"), (0, u "<init>"), (0, u "()V"), (0, .class_ 8), (0, u "com/example/touchtree/touchtree/node/PointerSet"), (0, .methodref 7 3), (0, .methodref 7 11), (0, .nameAndType 12 13), (0, u "add"), (0, u "(I)V"), (0, .methodref 7 15), (0, .nameAndType 16 13), (0, u "remove"), (0, .methodref 7 18), (0, .nameAndType 19 20), (0, u "contains"), (0, u "(I)Z"), (0, .methodref 7 22), (0, .nameAndType 23 24), (0, u "isEmpty"), (0, u "()Z"), (0, .class_ 26), (0, u "com/example/touchtree/touchtree/node/PointerSetRemovePinLaw"), (2, u "law"), (0, u "(IIII)Z")] 3

def k1m0 : Method := { name := "<init>", desc := "()V", sig := { parameters := [], returnType := none }, accessFlags := 1, code := none }
def k1c1 : Code := { maxStack := 3, maxLocals := 10, code := code, exceptionTable := #[], attributes := #[] }
def k1m1 : Method := { name := "law", desc := "(IIII)Z", sig := { parameters := [.int, .int, .int, .int], returnType := some .boolean }, accessFlags := 9, code := some k1c1 }
/-- com/example/touchtree/touchtree/node/PointerSetRemovePinLaw -/
def k1 : Class := { plain "com/example/touchtree/touchtree/node/PointerSetRemovePinLaw" (some 0) with
  accessFlags := 49
  interfaces := #[]
  cf := some (fileOf pool1 25 #[] #[{ accessFlags := 1, nameIndex := 5, descriptorIndex := 6, attributes := #[] }, { accessFlags := 9, nameIndex := 29, descriptorIndex := 30, attributes := #[] }] 49 2 #[] #[])
  fields := #[]
  methods := #[k1m0, k1m1]
  instanceTypes := #[]
  staticTypes := #[]
  resolved := Array.replicate 34 none
  statics := none }

def pool2 : Array CpInfo := pool [(1, .methodref 2 3), (0, .class_ 4), (0, .nameAndType 5 6), (0, u "java/lang/Object"), (0, u "<init>"), (0, u "()V"), (0, .methodref 8 9), (0, .class_ 10), (0, .nameAndType 11 12), (0, u "com/example/touchtree/touchtree/node/PointerSet"), (0, u "word"), (0, u "(I)J"), (0, .fieldref 8 14), (0, .nameAndType 15 16), (0, u "bits0"), (0, u "J"), (0, .fieldref 8 18), (0, .nameAndType 19 16), (0, u "bits1"), (0, .fieldref 8 21), (0, .nameAndType 22 16), (0, u "bits2"), (0, .fieldref 8 24), (0, .nameAndType 25 16), (0, u "bits3"), (0, .long 18446744073709551615), (13, u "contains"), (0, u "(I)Z"), (3, u "add"), (0, u "(I)V"), (0, u "remove"), (0, u "isEmpty"), (0, u "()Z")] 5

def k2c0 : Code := { maxStack := 1, maxLocals := 1, code := prog_67_method_1_code, exceptionTable := #[], attributes := #[] }
def k2m0 : Method := { name := "<init>", desc := "()V", sig := { parameters := [], returnType := none }, accessFlags := 0, code := some k2c0 }
def k2c1 : Code := { maxStack := 5, maxLocals := 2, code := prog_67_method_2_code, exceptionTable := #[], attributes := #[] }
def k2m1 : Method := { name := "contains", desc := "(I)Z", sig := { parameters := [.int], returnType := some .boolean }, accessFlags := 0, code := some k2c1 }
def k2c2 : Code := { maxStack := 2, maxLocals := 4, code := prog_67_method_3_code, exceptionTable := #[], attributes := #[] }
def k2m2 : Method := { name := "word", desc := "(I)J", sig := { parameters := [.int], returnType := some .long }, accessFlags := 2, code := some k2c2 }
def k2c3 : Code := { maxStack := 5, maxLocals := 4, code := prog_67_method_4_code, exceptionTable := #[], attributes := #[] }
def k2m3 : Method := { name := "add", desc := "(I)V", sig := { parameters := [.int], returnType := none }, accessFlags := 0, code := some k2c3 }
def k2c4 : Code := { maxStack := 7, maxLocals := 4, code := prog_67_method_5_code, exceptionTable := #[], attributes := #[] }
def k2m4 : Method := { name := "remove", desc := "(I)V", sig := { parameters := [.int], returnType := none }, accessFlags := 0, code := some k2c4 }
def k2c5 : Code := { maxStack := 4, maxLocals := 1, code := prog_67_method_6_code, exceptionTable := #[], attributes := #[] }
def k2m5 : Method := { name := "isEmpty", desc := "()Z", sig := { parameters := [], returnType := some .boolean }, accessFlags := 0, code := some k2c5 }
/-- com/example/touchtree/touchtree/node/PointerSet -/
def k2 : Class := { plain "com/example/touchtree/touchtree/node/PointerSet" (some 0) with
  accessFlags := 48
  interfaces := #[]
  cf := some (fileOf pool2 8 #[] #[{ accessFlags := 0, nameIndex := 5, descriptorIndex := 6, attributes := #[] }, { accessFlags := 0, nameIndex := 40, descriptorIndex := 41, attributes := #[] }, { accessFlags := 2, nameIndex := 11, descriptorIndex := 12, attributes := #[] }, { accessFlags := 0, nameIndex := 45, descriptorIndex := 46, attributes := #[] }, { accessFlags := 0, nameIndex := 47, descriptorIndex := 46, attributes := #[] }, { accessFlags := 0, nameIndex := 48, descriptorIndex := 49, attributes := #[] }] 48 2 #[] #[{ accessFlags := 2, nameIndex := 15, descriptorIndex := 16, attributes := #[] }, { accessFlags := 2, nameIndex := 19, descriptorIndex := 16, attributes := #[] }, { accessFlags := 2, nameIndex := 22, descriptorIndex := 16, attributes := #[] }, { accessFlags := 2, nameIndex := 25, descriptorIndex := 16, attributes := #[] }])
  fields := #[{ name := "bits0", type := .long, accessFlags := 2, slot := 0, constantValue := 0 }, { name := "bits1", type := .long, accessFlags := 2, slot := 1, constantValue := 0 }, { name := "bits2", type := .long, accessFlags := 2, slot := 2, constantValue := 0 }, { name := "bits3", type := .long, accessFlags := 2, slot := 3, constantValue := 0 }]
  methods := #[k2m0, k2m1, k2m2, k2m3, k2m4, k2m5]
  instanceTypes := #[.long, .long, .long, .long]
  staticTypes := #[]
  resolved := Array.replicate 55 none
  statics := none }

def pool3 : Array CpInfo := pool [(1, u "java/lang/Cloneable"), (0, .class_ 1), (0, u "java/lang/Object"), (0, .class_ 3)] 3

/-- java/lang/Cloneable -/
def k3 : Class := { plain "java/lang/Cloneable" (some 0) with
  accessFlags := 1537
  interfaces := #[]
  cf := some (fileOf pool3 2 #[] #[] 1537 4 #[] #[])
  fields := #[]
  methods := #[]
  instanceTypes := #[]
  staticTypes := #[]
  resolved := Array.replicate 8 none
  statics := none }

def pool4 : Array CpInfo := pool [(1, u "java/io/Serializable"), (0, .class_ 1), (0, u "java/lang/Object"), (0, .class_ 3)] 3

/-- java/io/Serializable -/
def k4 : Class := { plain "java/io/Serializable" (some 0) with
  accessFlags := 1537
  interfaces := #[]
  cf := some (fileOf pool4 2 #[] #[] 1537 4 #[] #[])
  fields := #[]
  methods := #[]
  instanceTypes := #[]
  staticTypes := #[]
  resolved := Array.replicate 8 none
  statics := none }

/-- the primitive byte -/
def k5 : Class := { plain "byte" none with kind := .primitive 'B', accessFlags := 0x411 }
/-- [B -/
def k6 : Class := { plain "[B" (some 0) with kind := .array 5 .byte, interfaces := #[3, 4], accessFlags := 1041 }

/-- the primitive int -/
def k7 : Class := { plain "int" none with kind := .primitive 'I', accessFlags := 0x411 }
/-- [I -/
def k8 : Class := { plain "[I" (some 0) with kind := .array 7 .int, interfaces := #[3, 4], accessFlags := 1041 }

def heap : Heap := #[]
def classes : Array Class := #[k0, k1, k2, k3, k4, k5, k6, k7, k8]
def interned : List (Array UInt16 × Addr) := []
def slotsUsed : Nat := 0
def theMethod : MethodId := ⟨1, 1⟩
def args0 : Array Value := #[.int 5, .int 5, .int 5, .int 5]
def aboutOver (below : List Frame) : State where
  vm := { classes := classes, interned := interned.toArray }
  heap := heap
  slotsUsed := slotsUsed
  threads := #[{ frames := .invoking theMethod args0 :: below }]
def below0 : List Frame := [.native { method := ⟨0, 0⟩, args := #[] }]
def about1 : State := aboutOver below0
def p0 : Program := .bare "" "" ""
def e0 : Env := launch0.env 0 0 0
theorem w_frames : about1.frames = Frame.invoking theMethod args0 :: below0 := rfl
set_option maxRecDepth 65536 in
theorem w_args : argsFit about1.vm theMethod args0 = true := by decide +kernel
set_option maxRecDepth 65536 in
theorem w_heap : heapFits about1 = true := by decide +kernel
set_option maxRecDepth 65536 in
theorem w_runnable : about1.curStatus? = some .runnable := by decide +kernel
set_option maxRecDepth 65536 in
theorem w_alone : about1.alone = true := by decide +kernel
set_option maxRecDepth 65536 in
theorem w_named : about1.methodNamed? x = some theMethod := by decide +kernel
set_option maxRecDepth 65536 in
theorem w_hears : about1.hears theMethod below0 = true := by decide +kernel
set_option maxRecDepth 65536 in
theorem w_ripe : about1.ripe theMethod args0 below0 = true := by decide +kernel
theorem w_running : about1.status = .running := rfl
set_option maxRecDepth 65536 in
theorem w_room : about1.hasRoom e0.platform room_1 = true :=
  launch0.hasRoom_least _ room_1 (by decide +kernel) (by decide +kernel) (by decide +kernel) (by decide +kernel) (by decide +kernel) (by decide +kernel)
theorem allAtoms_all (ts : List Jvm.Cond) (a : Array Jvm.Value) (st : Jvm.State) : (allAtoms ts).before a st = ts.all (fun c => c.before a st) := by
  induction ts with
  | nil => rfl
  | cons c t ih =>
    show (Jvm.Cond.and c (allAtoms t)).before a st = _
    rw [Jvm.Cond.before_and, ih, List.all_cons]
def words1 : List Jvm.Cond := Jvm.Cond.code x code maxLocals ret :: tables_1
/-- a 'code' word, met by the world's own term for the bytes: nothing is compared byte by byte -/
theorem code_word {y : MethodName} {bytes : ByteArray} {mx : Nat} {rt : Option FieldType} {a : Array Value} {s : State} {m : MethodId} {meth : Method} {c : Code} (h1 : s.methodNamed? y = some m) (h2 : s.vm.method? m = some meth) (h3 : meth.code = some c) (h4 : c.code = bytes)
    (h5 : (c.maxLocals == mx && c.exceptionTable.isEmpty && decide (c.maxStack ≤ mostOperands) && decide (meth.sig.returnType = rt) && !meth.locks && decide (parseMethodDescriptor y.desc = some meth.sig)) = true) : (Jvm.Cond.code y bytes mx rt).before a s = true := by
  simp only [Bool.and_eq_true, beq_iff_eq, Bool.not_eq_true', decide_eq_true_eq] at h5
  obtain ⟨⟨⟨⟨⟨g1, g2⟩, g3⟩, g4⟩, g5⟩, g6⟩ := h5
  simp [Cond.before, Cond.holds, Cond.value, h1, h2, h3, h4, g1, g2, g3, g4, g5, g6]
def isCode : Jvm.Cond → Bool
  | .code _ _ _ _ => true
  | _ => false
theorem all_split {L : List Jvm.Cond} {P : Jvm.Cond → Bool} (h1 : L.all (fun c => isCode c || P c) = true) (h2 : ∀ c ∈ L.filter isCode, P c = true) : L.all P = true := by
  refine List.all_eq_true.mpr fun c hc => ?_
  have h := List.all_eq_true.mp h1 c hc
  rcases Bool.eq_false_or_eq_true (isCode c) with hi | hi
  · exact h2 c (List.mem_filter.mpr ⟨hc, hi⟩)
  · simpa [hi] using h
set_option maxRecDepth 65536 in
theorem w_c0 : (Jvm.Cond.code x code maxLocals ret).before args0 about1 = true := code_word (m := ⟨1, 1⟩) (meth := k1m1) (c := k1c1) (by decide +kernel) rfl rfl rfl (by decide +kernel)
set_option maxRecDepth 65536 in
theorem w_c1 : (Jvm.Cond.code ({ cls := "com/example/touchtree/touchtree/node/PointerSet", name := "<init>", desc := "()V" } : Jvm.MethodName) prog_67_method_1_code (1 : Nat) (Option.none : Option Jvm.ClassFile.FieldType)).before args0 about1 = true := code_word (m := ⟨2, 0⟩) (meth := k2m0) (c := k2c0) (by decide +kernel) rfl rfl rfl (by decide +kernel)
set_option maxRecDepth 65536 in
theorem w_c2 : (Jvm.Cond.code ({ cls := "java/lang/Object", name := "<init>", desc := "()V" } : Jvm.MethodName) object_method_1_code (1 : Nat) (Option.none : Option Jvm.ClassFile.FieldType)).before args0 about1 = true := code_word (m := ⟨0, 0⟩) (meth := k0m0) (c := k0c0) (by decide +kernel) rfl rfl rfl (by decide +kernel)
set_option maxRecDepth 65536 in
theorem w_c3 : (Jvm.Cond.code ({ cls := "com/example/touchtree/touchtree/node/PointerSet", name := "add", desc := "(I)V" } : Jvm.MethodName) prog_67_method_4_code (4 : Nat) (Option.none : Option Jvm.ClassFile.FieldType)).before args0 about1 = true := code_word (m := ⟨2, 3⟩) (meth := k2m3) (c := k2c3) (by decide +kernel) rfl rfl rfl (by decide +kernel)
set_option maxRecDepth 65536 in
theorem w_c4 : (Jvm.Cond.code ({ cls := "com/example/touchtree/touchtree/node/PointerSet", name := "remove", desc := "(I)V" } : Jvm.MethodName) prog_67_method_5_code (4 : Nat) (Option.none : Option Jvm.ClassFile.FieldType)).before args0 about1 = true := code_word (m := ⟨2, 4⟩) (meth := k2m4) (c := k2c4) (by decide +kernel) rfl rfl rfl (by decide +kernel)
set_option maxRecDepth 65536 in
theorem w_c5 : (Jvm.Cond.code ({ cls := "com/example/touchtree/touchtree/node/PointerSet", name := "contains", desc := "(I)Z" } : Jvm.MethodName) prog_67_method_2_code (2 : Nat) (Option.some Jvm.ClassFile.FieldType.boolean)).before args0 about1 = true := code_word (m := ⟨2, 1⟩) (meth := k2m1) (c := k2c1) (by decide +kernel) rfl rfl rfl (by decide +kernel)
set_option maxRecDepth 65536 in
theorem w_c6 : (Jvm.Cond.code ({ cls := "com/example/touchtree/touchtree/node/PointerSet", name := "word", desc := "(I)J" } : Jvm.MethodName) prog_67_method_3_code (4 : Nat) (Option.some Jvm.ClassFile.FieldType.long)).before args0 about1 = true := code_word (m := ⟨2, 2⟩) (meth := k2m2) (c := k2c2) (by decide +kernel) rfl rfl rfl (by decide +kernel)
set_option maxRecDepth 65536 in
theorem w_c7 : (Jvm.Cond.code ({ cls := "com/example/touchtree/touchtree/node/PointerSet", name := "isEmpty", desc := "()Z" } : Jvm.MethodName) prog_67_method_6_code (1 : Nat) (Option.some Jvm.ClassFile.FieldType.boolean)).before args0 about1 = true := code_word (m := ⟨2, 5⟩) (meth := k2m5) (c := k2c5) (by decide +kernel) rfl rfl rfl (by decide +kernel)
def codes1 : List Jvm.Cond := [Jvm.Cond.code x code maxLocals ret, Jvm.Cond.code ({ cls := "com/example/touchtree/touchtree/node/PointerSet", name := "<init>", desc := "()V" } : Jvm.MethodName) prog_67_method_1_code (1 : Nat) (Option.none : Option Jvm.ClassFile.FieldType), Jvm.Cond.code ({ cls := "java/lang/Object", name := "<init>", desc := "()V" } : Jvm.MethodName) object_method_1_code (1 : Nat) (Option.none : Option Jvm.ClassFile.FieldType), Jvm.Cond.code ({ cls := "com/example/touchtree/touchtree/node/PointerSet", name := "add", desc := "(I)V" } : Jvm.MethodName) prog_67_method_4_code (4 : Nat) (Option.none : Option Jvm.ClassFile.FieldType), Jvm.Cond.code ({ cls := "com/example/touchtree/touchtree/node/PointerSet", name := "remove", desc := "(I)V" } : Jvm.MethodName) prog_67_method_5_code (4 : Nat) (Option.none : Option Jvm.ClassFile.FieldType), Jvm.Cond.code ({ cls := "com/example/touchtree/touchtree/node/PointerSet", name := "contains", desc := "(I)Z" } : Jvm.MethodName) prog_67_method_2_code (2 : Nat) (Option.some Jvm.ClassFile.FieldType.boolean), Jvm.Cond.code ({ cls := "com/example/touchtree/touchtree/node/PointerSet", name := "word", desc := "(I)J" } : Jvm.MethodName) prog_67_method_3_code (4 : Nat) (Option.some Jvm.ClassFile.FieldType.long), Jvm.Cond.code ({ cls := "com/example/touchtree/touchtree/node/PointerSet", name := "isEmpty", desc := "()Z" } : Jvm.MethodName) prog_67_method_6_code (1 : Nat) (Option.some Jvm.ClassFile.FieldType.boolean)]
set_option maxRecDepth 65536 in
theorem codes_eq : words1.filter isCode = codes1 := rfl
theorem w_codes : ∀ c ∈ words1.filter isCode, c.before args0 about1 = true := by
  rw [codes_eq]
  intro c hc
  simp only [codes1, List.mem_cons, List.not_mem_nil, or_false] at hc
  rcases hc with rfl | rfl | rfl | rfl | rfl | rfl | rfl | rfl
  · exact w_c0
  · exact w_c1
  · exact w_c2
  · exact w_c3
  · exact w_c4
  · exact w_c5
  · exact w_c6
  · exact w_c7
set_option maxRecDepth 65536 in
theorem w_t1 : (words1.take 24).all (fun c => isCode c || c.before args0 about1) = true := by decide +kernel
set_option maxRecDepth 65536 in
theorem w_t2 : (words1.drop 24).all (fun c => isCode c || c.before args0 about1) = true := by decide +kernel
theorem w_tables : (allAtoms (Jvm.Cond.code x code maxLocals ret :: tables_1)).before args0 about1 = true := by
  rw [allAtoms_all]
  show words1.all (fun c => c.before args0 about1) = true
  refine all_split ?_ w_codes
  rw [← List.take_append_drop 24 words1, List.all_append, w_t1, w_t2]
  rfl
set_option maxRecDepth 65536 in
theorem w_case : (Jvm.Cond.and given_1 narrow_1).before args0 about1 = true := by decide +kernel
theorem w_applies : (headSpec (Jvm.Cond.code x code maxLocals ret :: tables_1) room_1).applies x e0.platform about1 = true :=
  (Spec.applies_iff w_frames).mpr ⟨w_running, w_runnable, w_alone, w_named, w_hears, w_ripe, w_room, w_tables⟩
theorem atStart : AtStart classFile x code maxLocals ret World_1 tables_1 room_1 Calls_1 rest_1 Pre_1 launch0 p0 e0 about1 theMethod args0 below0 :=
  ⟨lists_1, trivial, launch0.admits_env _ _ _, launch0.least_env, fairChoices_fair.cas, fairChoices_fair.clock, w_frames, w_args, w_heap, w_applies, trivial, trivial, w_case⟩
end start1
theorem witness_1 : WitnessClaimed_1 := ⟨start1.p0, start1.e0, start1.about1, start1.theMethod, start1.args0, start1.below0, start1.atStart⟩
end Jvm.Pilot.@@N@@
