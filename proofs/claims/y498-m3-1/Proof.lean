import JvmDerived
import JvmDerived.Pilot.@@N@@Statement
import JvmDerived.Pilot.@@N@@Code
set_option linter.unusedVariables false
set_option linter.unusedSimpArgs false
namespace Jvm.RoadKit
open Sem ClassFile Op Lib Jvm.Stand Jvm.Free Jvm.LawKit
section New
variable {p : Program} {l : Launch} {e : Env} {R : Room} {s : State} {m : MethodId} {args : Array Value} {below : List Frame} {meth : Method} {c : Code} {T : State} {locs : List Loc} {cells slots : Nat}
theorem retI (X : Stand p l e R s m args below meth c T locs cells slots) (hx : p.tables.exec = Jvm.exec) {pc : Nat} {Ls : Array Slot} {z : Int32} {rest : List Value} (hret : meth.sig.returnType = some .int) (hd : decode c.code pc = .ok (.ireturn, 1)) {fs : List Frame}
    (hl : ∀ (f : JFrame) (acts : List Action), f.method = m → f.locked = none → f.entered = [] → (doReturn e (T.setTop f) acts (some (.int z))).1 = T.setFrames fs) : Steps p.tables e below (T.setTop (mkF m pc Ls (.int z :: rest))) (T.setFrames fs) := by
  have hm' : T.vm.method? m = some meth := X.method'
  have hn : narrow .int (.int z) = .int z := rfl
  show Steps p.tables e below (T.setTop { method := m, pc := pc, locals := Ls, stack := _ :: rest, locked := none }) _
  jvm_step X.here [X.here.top, hx, hd, hm', hret, hn]
  first | (intro acts; rw [hl _ acts rfl rfl rfl]) | rw [hl _ _ rfl rfl rfl]
  exact Steps.refl _
end New
end Jvm.RoadKit
namespace Jvm.Pilot.@@N@@
open Jvm Jvm.ClassFile Sem Op Lib Jvm.Free Jvm.Stand Jvm.LawKit Jvm.RoadKit Bundle Jvm.Pilot.@@N@@.Jvm.D
/-- the run from a frame of this method ends in a return with Q -/
def Go (p : Program) (e : Env) (s : State) (below : List Frame) (kc ks : Nat) (Q : Option Value → Heap → List Loc → Prop) (T : State) (f : JFrame) : Prop :=
  ∃ s₂ o, Steps p.tables e below (T.setTop f) s₂ ∧ s₂.status = .running ∧ Ended s₂ below o ∧ ∃ v L, o = .returned v ∧ Q v s₂.heap L ∧ FrameEnd s o s₂ L kc ks
/-- what is known of the method that runs -/
def Cx (p : Program) (s : State) (m : MethodId) (meth : Method) (c : Code) (Z : State) (own nm : String) (code : ByteArray) (maxL : Nat) (ret : Option FieldType) : Prop :=
  p.tables.exec = Jvm.exec ∧ Z.Warmed39 s.vm ∧ c.code = code ∧ c.maxLocals = maxL ∧ s.vm.findClass own = some m.cls ∧ meth.name = nm ∧ meth.sig.returnType = ret ∧ meth.locks = false
/-- a contract -/
def Ctr (l : Launch) (Z : State) (y : MethodName) (bytes : ByteArray) (maxL : Nat) (ret : Option FieldType) (ws : List Jvm.Cond) (rm : Room) (kc ks : Nat) (as : Array Value) (h : Heap) (Q : Option Value → Heap → List Loc → Prop) : Prop :=
  MetFree l y (head1 (Jvm.Cond.code y bytes maxL ret :: ws) rm) (fun a U => a = as ∧ Z.Warmed39 U.vm ∧ U.heap = h) (fun _ _ _ _ _ => True) (fun _ U o U' => ∃ v L, o = .returned v ∧ Q v U'.heap L ∧ FrameEnd U o U' L kc ks)
def bi (P : Prop) [Decidable P] : Int32 := if P then 1 else 0
theorem bi_t {P : Prop} [Decidable P] (h : P) : bi P = 1 := if_pos h
theorem bi_f {P : Prop} [Decidable P] (h : ¬ P) : bi P = 0 := if_neg h
theorem bi_n {P : Prop} [Decidable P] (h : P) : ¬ bi P = 0 := by rw [bi_t h]; decide
theorem bi_1 {P : Prop} [Decidable P] : bi P = 1 ↔ P := by unfold bi; split <;> simp_all
theorem bi_0 {P : Prop} [Decidable P] : bi P = 0 ↔ ¬ P := by unfold bi; split <;> simp_all
theorem bi_eq {P P' : Prop} [Decidable P] [Decidable P'] : bi P = bi P' ↔ (P ↔ P') := by unfold bi; split <;> split <;> simp_all
theorem bi_congr {P P' : Prop} [Decidable P] [Decidable P'] (h : P ↔ P') : bi P = bi P' := bi_eq.mpr h
theorem bi_fits {P : Prop} [Decidable P] : fits .boolean (.int (bi P)) = true := by unfold bi; split <;> rfl
theorem bi_nar {P : Prop} [Decidable P] : nar .boolean (bi P) = bi P := by unfold bi; split <;> rfl
section Own
variable {p : Program} {l : Launch} {e : Env} {R : Room} {s : State} {m : MethodId} {args : Array Value} {below : List Frame} {meth : Method} {c : Code} {T : State} {locs : List Loc} {cells slots kc ks : Nat} {Q : Option Value → Heap → List Loc → Prop} {Z : State} {a0 : Array Value} {h : Heap}
theorem Go.step {T' : State} {f f' : JFrame} (st : ∀ t, Steps p.tables e below (T'.setTop f') t → Steps p.tables e below (T.setTop f) t) (k : Go p e s below kc ks Q T' f') : Go p e s below kc ks Q T f := by
  obtain ⟨s₂, o, h1, r⟩ := k; exact ⟨s₂, o, st _ h1, r⟩
theorem Go.mono {Q' : Option Value → Heap → List Loc → Prop} {f : JFrame} (k : Go p e s below kc ks Q T f) (h : ∀ v h L, Q v h L → Q' v h L) : Go p e s below kc ks Q' T f := by
  obtain ⟨s₂, o, h1, h2, h3, v, L, h4, h5, h6⟩ := k; exact ⟨s₂, o, h1, h2, h3, v, L, h4, h _ _ _ h5, h6⟩
theorem Ctr.mk {y : MethodName} {bytes : ByteArray} {maxL : Nat} {ret : Option FieldType} {ws : List Jvm.Cond} {rm : Room} {as : Array Value} (hp : plainFor y = true)
    (hgo : ∀ (p : Program) (e : Env) (s : State) (m : MethodId) (below : List Frame) (meth : Method) (c : Code) (s₁ : State), Stand p l e rm s m as below meth c s₁ [] 0 0 → Cx p s m meth c Z y.cls y.name bytes maxL ret → s₁.heap = h → Go p e s below kc ks Q s₁ (entryFrame m as maxL)) :
    Ctr l Z y bytes maxL ret ws rm kc ks as h Q := by
  refine MetFree.of_bodySF hp hisR ?_
  intro p e s m args below meth c s₁ Bd hml0 hP hK
  obtain ⟨rfl, hZ, hh⟩ := hP
  exact hgo p e s m below meth c s₁ (Stand.of_body Bd) ⟨Bd.exec, hZ, Bd.bytes, hml0, findClass_of_methodNamed Bd.named, (name_of_methodNamed Bd.named Bd.method).1, Bd.returns, Bd.notSynchronized⟩ (by rw [← hh, Bd.state]; rfl)
theorem go_cast {f f' : JFrame} (q : f = f') (k : Go p e s below kc ks Q T f') : Go p e s below kc ks Q T f := q ▸ k
theorem go_retI (X : Stand p l e R s m args below meth c T locs cells slots) (hx : p.tables.exec = Jvm.exec) (hret : meth.sig.returnType = some .int) (hlk : meth.locks = false) {pc : Nat} {Ls : Array Slot} {z : Int32} {rest : List Value} (hd : decode c.code pc = .ok (.ireturn, 1))
    (hQ : Q (some (.int z)) T.heap locs) (hc : cells ≤ kc) (hs : slots ≤ ks) : Go p e s below kc ks Q T (mkF m pc Ls (.int z :: rest)) := by
  obtain ⟨fs, hr, hrun, hended, hW, hsame⟩ := X.leave (v := some (.int z)) (fun h => by rw [hret] at h; cases h) hlk
  exact ⟨_, _, retI X hx hret hd hr, hrun, hended, _, _, rfl, hQ, ⟨_, rfl⟩, hW, hsame.mono hc hs⟩
theorem go_retN (X : Stand p l e R s m args below meth c T locs cells slots) (hx : p.tables.exec = Jvm.exec) {t : FieldType} (hret : meth.sig.returnType = some t) (ht : t = .boolean ∨ t = .byte ∨ t = .char ∨ t = .short) (hlk : meth.locks = false) {pc : Nat} {Ls : Array Slot} {z w : Int32} {rest : List Value} (hd : decode c.code pc = .ok (.ireturn, 1))
    (hz : nar t z = w) (hQ : Q (some (.int w)) T.heap locs) (hc : cells ≤ kc) (hs : slots ≤ ks) : Go p e s below kc ks Q T (mkF m pc Ls (.int z :: rest)) := by
  subst hz
  obtain ⟨fs, hr, hrun, hended, hW, hsame⟩ := X.leave (v := some (.int (nar t z))) (fun h => by rw [hret] at h; cases h) hlk
  exact ⟨_, _, retN X hx hret ht hd hr, hrun, hended, _, _, rfl, hQ, ⟨_, rfl⟩, hW, hsame.mono hc hs⟩
theorem go_retJ (X : Stand p l e R s m args below meth c T locs cells slots) (hx : p.tables.exec = Jvm.exec) (hret : meth.sig.returnType = some .long) (hlk : meth.locks = false) {pc : Nat} {Ls : Array Slot} {z : Int64} (hd : decode c.code pc = .ok (.lreturn, 1))
    (hQ : Q (some (.long z)) T.heap locs) (hc : cells ≤ kc) (hs : slots ≤ ks) : Go p e s below kc ks Q T (mkF m pc Ls [.long z]) := by
  obtain ⟨fs, hr, hrun, hended, hW, hsame⟩ := X.leave (v := some (.long z)) (fun h => by rw [hret] at h; cases h) hlk
  exact ⟨_, _, X.lreturnOut hx hret hd hr, hrun, hended, _, _, rfl, hQ, ⟨_, rfl⟩, hW, hsame.mono hc hs⟩
theorem go_retA (X : Stand p l e R s m args below meth c T locs cells slots) (hx : p.tables.exec = Jvm.exec) {t : FieldType} (hret : meth.sig.returnType = some t) (ht : t.isReference = true) (hlk : meth.locks = false) {pc : Nat} {Ls : Array Slot} {w : Value} {rest : List Value} (hw : w.isRef = true) (hd : decode c.code pc = .ok (.areturn, 1))
    (hQ : Q (some w) T.heap locs) (hc : cells ≤ kc) (hs : slots ≤ ks) : Go p e s below kc ks Q T (mkF m pc Ls (w :: rest)) := by
  obtain ⟨fs, hr, hrun, hended, hW, hsame⟩ := X.leave (v := some w) (fun h => by rw [hret] at h; cases h) hlk
  have hn : narrow t w = w := by cases t <;> first | rfl | simp [FieldType.isReference] at ht
  exact ⟨_, _, retOut X hx hret hn (Or.inr (Or.inr (Or.inr (Or.inr ⟨rfl, ht, hw⟩)))) hd hr, hrun, hended, _, _, rfl, hQ, ⟨_, rfl⟩, hW, hsame.mono hc hs⟩
theorem go_ret (X : Stand p l e R s m args below meth c T locs cells slots) (hx : p.tables.exec = Jvm.exec) (hret : meth.sig.returnType = none) (hlk : meth.locks = false) {pc : Nat} {Ls : Array Slot} (hd : decode c.code pc = .ok (.return_, 1))
    (hQ : Q none T.heap locs) (hc : cells ≤ kc) (hs : slots ≤ ks) : Go p e s below kc ks Q T (mkF m pc Ls []) := by
  obtain ⟨fs, hr, hrun, hended, hW, hsame⟩ := X.leave (v := none) (fun _ => rfl) hlk
  exact ⟨_, _, X.returnOut hx hret hd hr, hrun, hended, _, _, rfl, hQ, ⟨_, rfl⟩, hW, hsame.mono hc hs⟩
/-! calls by a contract -/
section Calls
variable {own : String} {index : Nat} {y : MethodName} {bytes : ByteArray} {maxL : Nat} {ret r : Option FieldType} {rm : Room} {Qc : Option Value → Heap → List Loc → Prop} {argsL rest : List Value} {ps : List FieldType} {pc W : Nat} {Ls : Array Slot} {a : Addr}
theorem c_static (X : Stand p l e R s m args below meth c T locs cells slots) (hx : p.tables.exec = Jvm.exec) (hZ : Z.Warmed39 s.vm) (hown : s.vm.findClass own = some m.cls)
    (w1 : (Jvm.Cond.methodLink own index y).before a0 Z = true) (w2 : (Jvm.Cond.static y).before a0 Z = true) (w3 : (Jvm.Cond.initialized y.cls).before a0 Z = true) (w4 : (Jvm.Cond.code y bytes maxL ret).before a0 Z = true) (hy : y.cls ≠ "java/lang/invoke/MethodHandle" ∧ y.cls ≠ "java/lang/invoke/VarHandle")
    (hC : Ctr l Z y bytes maxL ret [] rm rm.cells rm.slots argsL.toArray h Qc) (eT : T.heap = h) (hpd : parseMethodDescriptor y.desc = some ⟨ps, r⟩) (hlen : argsL.length = ps.length) (hsz : Ls.size = c.maxLocals) (hW : 2 * 0 + (rest.map fun v => v.category).sum ≤ W)
    (hf : rm.frames + 1 ≤ R.frames) (hl : W + (maxL + 11) + rm.locals ≤ R.locals) (hc : cells + rm.cells ≤ R.cells) (hs : slots + rm.slots ≤ R.slots) (hd : decode c.code pc = .ok (.invokestatic index, 3)) :
    ∃ (v : Option Value) (T' : State) (L : List Loc), Stand p l e R s m args below meth c T' (locs ++ L) (cells + rm.cells) (slots + rm.slots) ∧ Qc v T'.heap L ∧
      ∀ t, Steps p.tables e below (T'.setTop (mkF m (pc + 3) Ls (v.toList ++ rest))) t → Steps p.tables e below (T.setTop (mkF m pc Ls (argsL.reverse ++ rest))) t := by
  obtain ⟨v, _, ⟨T', L', k', n'⟩, -, X', ⟨L, hQ, rfl, rfl, rfl⟩, st⟩ := Jvm.LawKit.callS X hx (y := y) hown (mvT hZ w1) (mvT hZ w2) (mvT hZ w3) (mvT hZ w4) hy (backOf (W := W) hC hZ w4 w3 hf hl) (g := mkF m pc Ls (argsL.reverse ++ rest)) rfl hsz (argsL := argsL) (rest := rest) (lenOf hpd hlen) rfl hW hd (fun _ _ => ⟨rfl, eT, hc, hs⟩)
  exact ⟨v, T', L, X', hQ, st⟩
theorem c_init (X : Stand p l e R s m args below meth c T locs cells slots) (hx : p.tables.exec = Jvm.exec) (hZ : Z.Warmed39 s.vm) (hown : s.vm.findClass own = some m.cls)
    (w1 : (Jvm.Cond.methodLink own index y).before a0 Z = true) (w2 : (Jvm.Cond.instanceMethod y).before a0 Z = true) (w3 : (Jvm.Cond.initialized y.cls).before a0 Z = true) (w4 : (Jvm.Cond.code y bytes maxL none).before a0 Z = true) (hn : y.name = "<init>") (hy : y.cls ≠ "java/lang/invoke/MethodHandle" ∧ y.cls ≠ "java/lang/invoke/VarHandle")
    (hC : Ctr l Z y bytes maxL none [] rm rm.cells rm.slots (.ref a :: argsL).toArray h Qc) (eT : T.heap = h) (hpd : parseMethodDescriptor y.desc = some ⟨ps, r⟩) (hlen : argsL.length = ps.length) (hsz : Ls.size = c.maxLocals) (hW : 2 * 0 + (rest.map fun v => v.category).sum ≤ W)
    (hf : rm.frames + 1 ≤ R.frames) (hl : W + (maxL + 11) + rm.locals ≤ R.locals) (hc : cells + rm.cells ≤ R.cells) (hs : slots + rm.slots ≤ R.slots) (hd : decode c.code pc = .ok (.invokespecial index, 3)) :
    ∃ (v : Option Value) (T' : State) (L : List Loc), Stand p l e R s m args below meth c T' (locs ++ L) (cells + rm.cells) (slots + rm.slots) ∧ Qc v T'.heap L ∧
      ∀ t, Steps p.tables e below (T'.setTop (mkF m (pc + 3) Ls (v.toList ++ rest))) t → Steps p.tables e below (T.setTop (mkF m pc Ls (argsL.reverse ++ .ref a :: rest))) t := by
  obtain ⟨v, _, ⟨T', L', k', n'⟩, -, X', ⟨L, hQ, rfl, rfl, rfl⟩, st⟩ := X.specialBack hx (y := y) hn hown (mvT hZ w1) (mvT hZ w2) (mvT hZ w4) hy (backOf (W := W) hC hZ w4 w3 hf hl) (g := mkF m pc Ls (argsL.reverse ++ .ref a :: rest)) rfl hsz (Steps.refl _) (a := a) (argsL := argsL) (rest := rest) (lenOf hpd hlen) rfl hW hd (fun _ _ => ⟨rfl, eT, hc, hs⟩)
  exact ⟨v, T', L, X', hQ, fun t k => st.trans k⟩
theorem c_virt {y' : MethodName} {C : String} (X : Stand p l e R s m args below meth c T locs cells slots) (hx : p.tables.exec = Jvm.exec) (hZ : Z.Warmed39 s.vm) (hown : s.vm.findClass own = some m.cls)
    (w1 : (Jvm.Cond.methodLink own index y').before a0 Z = true) (wd : (Jvm.Cond.declares y').before a0 Z = true) (nf : NotFace s y') (ws : (Jvm.Cond.selects C y' y).before a0 Z = true) (w2 : (Jvm.Cond.instanceMethod y).before a0 Z = true) (w3 : (Jvm.Cond.initialized y.cls).before a0 Z = true) (w4 : (Jvm.Cond.code y bytes maxL ret).before a0 Z = true) (hy : y'.cls ≠ "java/lang/invoke/MethodHandle" ∧ y'.cls ≠ "java/lang/invoke/VarHandle")
    (hC : Ctr l Z y bytes maxL ret [] rm rm.cells rm.slots (.ref a :: argsL).toArray h Qc) (eT : T.heap = h) (E : Exa Z h a C) (hpd : parseMethodDescriptor y'.desc = some ⟨ps, r⟩) (hlen : argsL.length = ps.length) (hsz : Ls.size = c.maxLocals) (hW : 2 * 0 + (rest.map fun v => v.category).sum ≤ W)
    (hf : rm.frames + 1 ≤ R.frames) (hl : W + (maxL + 11) + rm.locals ≤ R.locals) (hc : cells + rm.cells ≤ R.cells) (hs : slots + rm.slots ≤ R.slots) (hd : decode c.code pc = .ok (.invokevirtual index, 3)) :
    ∃ (v : Option Value) (T' : State) (L : List Loc), Stand p l e R s m args below meth c T' (locs ++ L) (cells + rm.cells) (slots + rm.slots) ∧ Qc v T'.heap L ∧
      ∀ t, Steps p.tables e below (T'.setTop (mkF m (pc + 3) Ls (v.toList ++ rest))) t → Steps p.tables e below (T.setTop (mkF m pc Ls (argsL.reverse ++ .ref a :: rest))) t := by
  obtain ⟨cq, kq, qa, qb, qc⟩ := isOf hZ eT E
  obtain ⟨v, _, ⟨T', L', k', n'⟩, -, X', ⟨L, hQ, rfl, rfl, rfl⟩, st⟩ := X.virtualBack hx (y := y') (z := y) hown (mvT hZ w1) (mvT hZ wd) nf (mvT hZ ws) (mvT hZ w2) hy (backOf (W := W) hC hZ w4 w3 hf hl) qa qc (g := mkF m pc Ls (argsL.reverse ++ .ref a :: rest)) rfl hsz (Steps.refl _) (argsL := argsL) (rest := rest) (lenOf hpd hlen) rfl hW hd (fun _ _ => ⟨rfl, eT, hc, hs⟩)
  exact ⟨v, T', L, X', hQ, fun t k => st.trans k⟩
theorem own_nf {y' z : MethodName} {C : String} {as : Array Value} (ws : (Jvm.Cond.selects C y' z).before as s = true) (h : z.cls = y.cls) : NotFace s y := fun r0 h0 => by
  obtain ⟨_, _, m2, -, -, q3, -, kP, hkP, hkPi⟩ := Cond.selects_spec ws
  have e1 := findClass_of_methodNamed q3
  rw [h] at e1
  have e2 : m2.cls = r0.cls := Option.some.inj (e1.symm.trans (findClass_of_methodNamed h0))
  exact ⟨kP, e2 ▸ hkP, hkPi⟩
/-- a private method of an object, by invokevirtual: its class isn't an interface (nf) -/
theorem c_priv {C : String} (X : Stand p l e R s m args below meth c T locs cells slots) (hx : p.tables.exec = Jvm.exec) (hZ : Z.Warmed39 s.vm) (hown : s.vm.findClass own = some m.cls)
    (w1 : (Jvm.Cond.methodLink own index y).before a0 Z = true) (w2 : (Jvm.Cond.instanceMethod y).before a0 Z = true) (nf : NotFace s y) (wp : (Jvm.Cond.privateMethod y).before a0 Z = true) (w3 : (Jvm.Cond.initialized y.cls).before a0 Z = true) (w4 : (Jvm.Cond.code y bytes maxL ret).before a0 Z = true) (hy : y.cls ≠ "java/lang/invoke/MethodHandle" ∧ y.cls ≠ "java/lang/invoke/VarHandle")
    (hC : Ctr l Z y bytes maxL ret [] rm rm.cells rm.slots (.ref a :: argsL).toArray h Qc) (eT : T.heap = h) (E : Exa Z h a C) (hpd : parseMethodDescriptor y.desc = some ⟨ps, r⟩) (hlen : argsL.length = ps.length) (hsz : Ls.size = c.maxLocals) (hW : 2 * 0 + (rest.map fun v => v.category).sum ≤ W)
    (hf : rm.frames + 1 ≤ R.frames) (hl : W + (maxL + 11) + rm.locals ≤ R.locals) (hc : cells + rm.cells ≤ R.cells) (hs : slots + rm.slots ≤ R.slots) (hd : decode c.code pc = .ok (.invokevirtual index, 3)) :
    ∃ (v : Option Value) (T' : State) (L : List Loc), Stand p l e R s m args below meth c T' (locs ++ L) (cells + rm.cells) (slots + rm.slots) ∧ Qc v T'.heap L ∧
      ∀ t, Steps p.tables e below (T'.setTop (mkF m (pc + 3) Ls (v.toList ++ rest))) t → Steps p.tables e below (T.setTop (mkF m pc Ls (argsL.reverse ++ .ref a :: rest))) t := by
  obtain ⟨cq, qa, qb⟩ := E.cell
  obtain ⟨mk, methM, hnamed, hmethM, hstM, habM⟩ := Cond.instanceMethod_spec (mvT (args := args) hZ w2)
  obtain ⟨methM', cM, hmethM', -, -, -, -, -, -, hsigM⟩ := Cond.code_spec hnamed (mvT (args := args) hZ w4)
  cases hmethM.symm.trans hmethM'
  obtain ⟨kP, hkP, hkPi⟩ := nf mk hnamed
  have hsel : selectMethod e.platform s.vm cq.cls mk = .method mk := selectMethod_private hmethM ((Cond.privateMethod_at (mvP hZ wp (args := #[]))) mk methM hnamed hmethM)
  obtain ⟨vm₁, X₁, hst⟩ := X.invokevirtual hx hown (mvT hZ w1) hnamed hmethM hstM hkP hkPi hy (a := a) (cell := cq) (by rw [eT]; exact qa) qb hsel hmethM habM hkP hkPi (g := mkF m pc Ls (argsL.reverse ++ .ref a :: rest)) rfl (argsL := argsL) (rest := rest) (lenOf hpd hlen _ hsigM) rfl hd
  obtain ⟨v, ⟨T', L', k', n'⟩, X', ⟨L, hQ, rfl, rfl, rfl⟩, hgo⟩ := (backOf (W := W) (len := 3) hC hZ w4 w3 hf hl) m meth c ⟨T.setVm vm₁, locs, cells, slots⟩ (mkF m pc Ls rest) (.invokevirtual index) mk (.ref a :: argsL).toArray X₁ rfl hsz hd hW (X₁.named hnamed) ⟨rfl, eT, hc, hs⟩
  exact ⟨v, T', L, X', hQ, fun t k => ((hst _ fun acts => by rw [doInvoke_state]; exact Steps.refl _).trans hgo).trans k⟩
/-- invokevirtual of a method that a class above the one that the entry names declares -/
theorem c_virtUp {y' : MethodName} {C owner : String} (X : Stand p l e R s m args below meth c T locs cells slots) (hx : p.tables.exec = Jvm.exec) (hZ : Z.Warmed39 s.vm) (hown : s.vm.findClass own = some m.cls)
    (w1 : (Jvm.Cond.methodLink own index y').before a0 Z = true) (wm : (Jvm.Cond.sameMethod y'.cls owner y'.name y'.desc).before a0 Z = true) (wd : (Jvm.Cond.declares ⟨owner, y'.name, y'.desc⟩).before a0 Z = true) (ws : (Jvm.Cond.selects C y' y).before a0 Z = true) (w2 : (Jvm.Cond.instanceMethod y).before a0 Z = true) (w3 : (Jvm.Cond.initialized y.cls).before a0 Z = true) (w4 : (Jvm.Cond.code y bytes maxL ret).before a0 Z = true) (hy : owner ≠ "java/lang/invoke/MethodHandle" ∧ owner ≠ "java/lang/invoke/VarHandle")
    (hC : Ctr l Z y bytes maxL ret [] rm rm.cells rm.slots (.ref a :: argsL).toArray h Qc) (eT : T.heap = h) (E : Exa Z h a C) (hpd : parseMethodDescriptor y'.desc = some ⟨ps, r⟩) (hlen : argsL.length = ps.length) (hsz : Ls.size = c.maxLocals) (hW : 2 * 0 + (rest.map fun v => v.category).sum ≤ W)
    (hf : rm.frames + 1 ≤ R.frames) (hl : W + (maxL + 11) + rm.locals ≤ R.locals) (hc : cells + rm.cells ≤ R.cells) (hs : slots + rm.slots ≤ R.slots) (hd : decode c.code pc = .ok (.invokevirtual index, 3)) :
    ∃ (v : Option Value) (T' : State) (L : List Loc), Stand p l e R s m args below meth c T' (locs ++ L) (cells + rm.cells) (slots + rm.slots) ∧ Qc v T'.heap L ∧
      ∀ t, Steps p.tables e below (T'.setTop (mkF m (pc + 3) Ls (v.toList ++ rest))) t → Steps p.tables e below (T.setTop (mkF m pc Ls (argsL.reverse ++ .ref a :: rest))) t := by
  obtain ⟨cq, kq, qa, qb, qc⟩ := isOf hZ eT E
  obtain ⟨v, _, ⟨T', L', k', n'⟩, -, X', ⟨L, hQ, rfl, rfl, rfl⟩, st⟩ := X.virtualBackUp hx (x := y') (y := y) hown (mvT hZ w1) (mvT hZ wm) (mvT hZ wd) hy (mvT hZ ws) (mvT hZ w2) (backOf (W := W) hC hZ w4 w3 hf hl) qa qc (g := mkF m pc Ls (argsL.reverse ++ .ref a :: rest)) rfl hsz (Steps.refl _) (argsL := argsL) (rest := rest) (lenOf hpd hlen) rfl hW hd (fun _ _ => ⟨rfl, eT, hc, hs⟩)
  exact ⟨v, T', L, X', hQ, fun t k => st.trans k⟩
end Calls
end Own
def bt (b : Int64) (i : Nat) : Bool := b.toBitVec.getLsbD i
def Bits (S : Nat → Bool) (u0 u1 u2 u3 : Int64) : Prop := ∀ i, i < 64 → bt u0 i = S i ∧ bt u1 i = S (64 + i) ∧ bt u2 i = S (128 + i) ∧ bt u3 i = S (192 + i)
abbrev ins (S : Nat → Bool) (n : Nat) : Nat → Bool := fun i => S i || decide (i = n)
abbrev del (S : Nat → Bool) (n : Nat) : Nat → Bool := fun i => S i && !decide (i = n)
abbrev Emp (S : Nat → Bool) : Prop := ∀ i, i < 256 → S i = false
abbrev sh (x : Int32) : Int64 := (1 : Int64) <<< (x &&& 0x3f).toInt64
theorem own_mod (n : Nat) (h : n < 256) : (Int32.ofNat n).toBitVec.toNat % 64 = n % 64 := by
  show (BitVec.ofNat 32 n).toNat % 64 = n % 64
  rw [BitVec.toNat_ofNat]; omega
theorem own_sh (n i : Nat) (h : n < 256) (hi : i < 64) : bt (sh (Int32.ofNat n)) i = decide (i = n % 64) := by
  show (((1 : Int64).toBitVec <<< ((Int32.ofNat n &&& 0x3f).toInt64.toBitVec.smod 64))).getLsbD i = _
  rw [BitVec.shiftLeft_eq', (sm64 _ _ (own_mod n h)).1, smod64 _ (sm64 _ _ (own_mod n h)).2, BitVec.getLsbD_shiftLeft, show (1 : Int64).toBitVec = 1#64 from rfl, BitVec.getLsbD_one]
  by_cases q : i = n % 64
  · subst q; simp [hi]
  · by_cases r : i < n % 64
    · simp [r, q]
    · have : ¬ (i - n % 64 = 0) := by omega
      simp [q, this]
theorem own_bor (a b : Int64) (i : Nat) : bt (a ||| b) i = (bt a i || bt b i) := by
  show (a ||| b).toBitVec.getLsbD i = _
  rw [Int64.toBitVec_or, BitVec.getLsbD_or]; rfl
theorem own_band (a b : Int64) (i : Nat) : bt (a &&& b) i = (bt a i && bt b i) := by
  show (a &&& b).toBitVec.getLsbD i = _
  rw [Int64.toBitVec_and, BitVec.getLsbD_and]; rfl
theorem own_bnot (a : Int64) (i : Nat) (hi : i < 64) : bt (a ^^^ (-1 : Int64)) i = !bt a i := by
  show (a ^^^ (-1 : Int64)).toBitVec.getLsbD i = _
  rw [Int64.toBitVec_xor, BitVec.getLsbD_xor, show (-1 : Int64).toBitVec = BitVec.allOnes 64 from by decide, BitVec.getLsbD_allOnes]
  simp [hi, bt]
theorem own_zero (a : Int64) : a = 0 ↔ ∀ i, i < 64 → bt a i = false := by
  constructor
  · rintro rfl i hi; show (0#64).getLsbD i = false; simp
  · intro h; refine Int64.toBitVec_inj.mp (BitVec.eq_of_getLsbD_eq fun i hi => ?_)
    rw [show a.toBitVec.getLsbD i = false from h i hi]; show _ = (0#64).getLsbD i; simp
theorem Bits.zero : Bits (fun _ => false) 0 0 0 0 := fun i hi => by
  have h := (own_zero 0).mp rfl i hi
  exact ⟨h, h, h, h⟩
theorem own_cl (n k : Nat) (h : n < 256) (hk : k < 2147483648) : (Int32.ofNat n < Int32.ofNat k) ↔ n < k := by
  rw [Int32.lt_iff_toInt_lt, Int32.toInt_ofNat_of_lt (by omega), Int32.toInt_ofNat_of_lt (by omega)]; omega
section Sets
variable {S : Nat → Bool} {u0 u1 u2 u3 : Int64} {n : Nat}
theorem Bits.add0 (B : Bits S u0 u1 u2 u3) (h : n < 64) : Bits (ins S n) (u0 ||| sh (Int32.ofNat n)) u1 u2 u3 := fun i hi => by
  obtain ⟨b0, b1, b2, b3⟩ := B i hi
  refine ⟨by rw [own_bor, own_sh n i (by omega) hi, b0, Nat.mod_eq_of_lt h], ?_, ?_, ?_⟩
  · rw [b1]; simp [ins]; omega
  · rw [b2]; simp [ins]; omega
  · rw [b3]; simp [ins]; omega
theorem Bits.add1 (B : Bits S u0 u1 u2 u3) (h0 : ¬ n < 64) (h : n < 128) : Bits (ins S n) u0 (u1 ||| sh (Int32.ofNat n)) u2 u3 := fun i hi => by
  obtain ⟨b0, b1, b2, b3⟩ := B i hi
  refine ⟨?_, ?_, ?_, ?_⟩
  · rw [b0]; simp [ins]; omega
  · rw [own_bor, own_sh n i (by omega) hi, b1]; simp only [ins]; congr 1; exact decide_eq_decide.mpr (by omega)
  · rw [b2]; simp [ins]; omega
  · rw [b3]; simp [ins]; omega
theorem Bits.add2 (B : Bits S u0 u1 u2 u3) (h0 : ¬ n < 128) (h : n < 192) : Bits (ins S n) u0 u1 (u2 ||| sh (Int32.ofNat n)) u3 := fun i hi => by
  obtain ⟨b0, b1, b2, b3⟩ := B i hi
  refine ⟨?_, ?_, ?_, ?_⟩
  · rw [b0]; simp [ins]; omega
  · rw [b1]; simp [ins]; omega
  · rw [own_bor, own_sh n i (by omega) hi, b2]; simp only [ins]; congr 1; exact decide_eq_decide.mpr (by omega)
  · rw [b3]; simp [ins]; omega
theorem Bits.add3 (B : Bits S u0 u1 u2 u3) (h0 : ¬ n < 192) (h : n < 256) : Bits (ins S n) u0 u1 u2 (u3 ||| sh (Int32.ofNat n)) := fun i hi => by
  obtain ⟨b0, b1, b2, b3⟩ := B i hi
  refine ⟨?_, ?_, ?_, ?_⟩
  · rw [b0]; simp [ins]; omega
  · rw [b1]; simp [ins]; omega
  · rw [b2]; simp [ins]; omega
  · rw [own_bor, own_sh n i (by omega) hi, b3]; simp only [ins]; congr 1; exact decide_eq_decide.mpr (by omega)
theorem own_dl {b : Bool} {P : Prop} [Decidable P] (h : ¬ P) : b = (b && !decide P) := by simp [h]
theorem Bits.del0 (B : Bits S u0 u1 u2 u3) (h : n < 64) : Bits (del S n) (u0 &&& (sh (Int32.ofNat n) ^^^ (-1 : Int64))) u1 u2 u3 := fun i hi => by
  obtain ⟨b0, b1, b2, b3⟩ := B i hi
  refine ⟨?_, b1.trans (own_dl (by omega)), b2.trans (own_dl (by omega)), b3.trans (own_dl (by omega))⟩
  rw [own_band, own_bnot _ _ hi, own_sh n i (by omega) hi, b0, Nat.mod_eq_of_lt h]
theorem Bits.del1 (B : Bits S u0 u1 u2 u3) (h0 : ¬ n < 64) (h : n < 128) : Bits (del S n) u0 (u1 &&& (sh (Int32.ofNat n) ^^^ (-1 : Int64))) u2 u3 := fun i hi => by
  obtain ⟨b0, b1, b2, b3⟩ := B i hi
  refine ⟨b0.trans (own_dl (by omega)), ?_, b2.trans (own_dl (by omega)), b3.trans (own_dl (by omega))⟩
  rw [own_band, own_bnot _ _ hi, own_sh n i (by omega) hi, b1]; simp only [del]; congr 2; exact decide_eq_decide.mpr (by omega)
theorem Bits.del2 (B : Bits S u0 u1 u2 u3) (h0 : ¬ n < 128) (h : n < 192) : Bits (del S n) u0 u1 (u2 &&& (sh (Int32.ofNat n) ^^^ (-1 : Int64))) u3 := fun i hi => by
  obtain ⟨b0, b1, b2, b3⟩ := B i hi
  refine ⟨b0.trans (own_dl (by omega)), b1.trans (own_dl (by omega)), ?_, b3.trans (own_dl (by omega))⟩
  rw [own_band, own_bnot _ _ hi, own_sh n i (by omega) hi, b2]; simp only [del]; congr 2; exact decide_eq_decide.mpr (by omega)
theorem Bits.del3 (B : Bits S u0 u1 u2 u3) (h0 : ¬ n < 192) (h : n < 256) : Bits (del S n) u0 u1 u2 (u3 &&& (sh (Int32.ofNat n) ^^^ (-1 : Int64))) := fun i hi => by
  obtain ⟨b0, b1, b2, b3⟩ := B i hi
  refine ⟨b0.trans (own_dl (by omega)), b1.trans (own_dl (by omega)), b2.trans (own_dl (by omega)), ?_⟩
  rw [own_band, own_bnot _ _ hi, own_sh n i (by omega) hi, b3]; simp only [del]; congr 2; exact decide_eq_decide.mpr (by omega)
theorem Bits.emp (B : Bits S u0 u1 u2 u3) : (((u0 ||| u1) ||| u2) ||| u3) = (0 : Int64) ↔ Emp S := by
  rw [own_zero]
  constructor
  · intro h i hi
    have hj : i % 64 < 64 := by omega
    have q := h (i % 64) hj
    obtain ⟨b0, b1, b2, b3⟩ := B (i % 64) hj
    rw [own_bor, own_bor, own_bor, b0, b1, b2, b3] at q
    simp only [Bool.or_eq_false_iff] at q
    rcases (by omega : i = i % 64 ∨ i = 64 + i % 64 ∨ i = 128 + i % 64 ∨ i = 192 + i % 64) with e | e | e | e
    · rw [e]; exact q.1.1.1
    · rw [e]; exact q.1.1.2
    · rw [e]; exact q.1.2
    · rw [e]; exact q.2
  · intro h i hi
    obtain ⟨b0, b1, b2, b3⟩ := B i hi
    rw [own_bor, own_bor, own_bor, b0, b1, b2, b3, h _ (by omega), h _ (by omega), h _ (by omega), h _ (by omega)]; rfl
abbrev wsel (x : Int32) (u0 u1 u2 u3 : Int64) : Int64 := if x < (64 : Int32) then u0 else if x < (128 : Int32) then u1 else if x < (192 : Int32) then u2 else u3
theorem Bits.has (B : Bits S u0 u1 u2 u3) (h : n < 256) : ¬ ((wsel (Int32.ofNat n) u0 u1 u2 u3 &&& sh (Int32.ofNat n)) = (0 : Int64)) ↔ S n = true := by
  have hj : n % 64 < 64 := by omega
  obtain ⟨b0, b1, b2, b3⟩ := B (n % 64) hj
  have key : ∀ w : Int64, bt w (n % 64) = S n → (¬ ((w &&& sh (Int32.ofNat n)) = (0 : Int64)) ↔ S n = true) := by
    intro w hw
    rw [own_zero]
    constructor
    · intro q
      cases hS : S n
      · exfalso; refine q fun i hi => ?_
        rw [own_band, own_sh n i h hi]
        by_cases e : i = n % 64
        · subst e; rw [hw, hS]; rfl
        · simp [e]
      · rfl
    · intro hS q
      have := q (n % 64) hj
      rw [own_band, own_sh n _ h hj, hw, hS] at this
      simp at this
  have c1 : (Int32.ofNat n < (64 : Int32)) ↔ n < 64 := own_cl n 64 h (by decide)
  have c2 : (Int32.ofNat n < (128 : Int32)) ↔ n < 128 := own_cl n 128 h (by decide)
  have c3 : (Int32.ofNat n < (192 : Int32)) ↔ n < 192 := own_cl n 192 h (by decide)
  unfold wsel
  by_cases h1 : n < 64
  · rw [if_pos (c1.mpr h1)]; exact key _ (b0.trans (by congr 1; omega))
  · rw [if_neg (mt c1.mp h1)]
    by_cases h2 : n < 128
    · rw [if_pos (c2.mpr h2)]; exact key _ (b1.trans (by congr 1; omega))
    · rw [if_neg (mt c2.mp h2)]
      by_cases h3 : n < 192
      · rw [if_pos (c3.mpr h3)]; exact key _ (b2.trans (by congr 1; omega))
      · rw [if_neg (mt c3.mp h3)]; exact key _ (b3.trans (by congr 1; omega))
end Sets
theorem own_255 (x : Int32) : ∃ n : Nat, n < 256 ∧ (x &&& (255 : Int32)) = Int32.ofNat n := by
  have h1 := c_mask x 255 8 (by decide) (by decide)
  refine ⟨(x &&& 255).toInt.toNat, by omega, Int32.toInt_inj.mp ?_⟩
  rw [Int32.toInt_ofNat_of_lt (by omega)]; omega
theorem own_inj {a b : Nat} (ha : a < 256) (hb : b < 256) : Int32.ofNat a = Int32.ofNat b ↔ a = b := by
  rw [← Int32.toInt_inj, Int32.toInt_ofNat_of_lt (by omega), Int32.toInt_ofNat_of_lt (by omega)]; omega
theorem ef_rmI (m : MethodId) (x0 : Addr) : entryFrame m #[(.ref x0)] 1 = mkF m 0 #[.val (.ref x0)] [] := by first | (simp [entryFrame, mkF, argsToLocals, Value.category]; done) | rfl
theorem pn_0 : plainName "com/example/touchtree/touchtree/node/PointerSet" = true := by first | (simp [plainName, overriddenIn]; done) | decide +kernel
theorem d1_0 : decode prog_67_method_1_code 0 = .ok (.aload_n 0, 1) := by decide +kernel
theorem d1_1 : decode prog_67_method_1_code 1 = .ok (.invokespecial 1, 3) := by decide +kernel
theorem d1_4 : decode prog_67_method_1_code 4 = .ok (.return_, 1) := by decide +kernel
set_option maxRecDepth 65536 in
set_option maxHeartbeats 40000000 in
theorem rmI (l : Launch) (Z : State) (a0 : Array Value) (hw : ∀ d ∈ tables_1, d.before a0 Z = true) (ws : List Jvm.Cond) (a : Addr)   (h0 : Heap) (n0 : Nat) (Z0 : n0 ≤ h0.size) (E_a : Exa Z h0 a "com/example/touchtree/touchtree/node/PointerSet") :
    Ctr l Z (⟨"com/example/touchtree/touchtree/node/PointerSet", "<init>", "()V"⟩ : MethodName) prog_67_method_1_code 1 none ws ({ frames := 1, cells := 0, slots := 0, locals := 12 } : Room) 0 0 #[(.ref a)] h0 (fun v h L => v = none ∧ L = [] ∧ h = h0) := by
  refine Ctr.mk (plainFor_of_name pn_0) fun p e s m below meth c T0 X0 C e0 => go_cast (ef_rmI m a) ?_
  have N0 := Fr.nil n0
  obtain ⟨hx, hZ, hby, hml, hown, hnm, hret, hlk⟩ := C
  show Go _ _ _ _ _ _ _ T0 (mkF m 0 #[.val (.ref a)] [])
  refine Go.step (fun t k => XS.aloadN X0.here hx rfl (hb hby d1_0) rfl rfl k) ?_
  show Go _ _ _ _ _ _ _ T0 (mkF m 1 #[.val (.ref a)] [(.ref a)])
  obtain ⟨T1, X1, e1, st1⟩ := initO X0 hx hZ hown (hw _ (List.mem_of_getElem? (i := 6) rfl)) (hw _ (List.mem_of_getElem? (i := 7) rfl)) (hw _ (List.mem_of_getElem? (i := 8) rfl)) e0 (g := (mkF m 1 #[.val (.ref a)] [(.ref a)])) rfl (by rw [hml]; rfl) rfl (hb hby d1_1) (by decide) (W := 0) (by show 2 * 0 + _ ≤ _; exact Nat.le_of_eq rfl) (by decide)
  refine Go.step (st1) ?_
  show Go _ _ _ _ _ _ _ T1 (mkF m 4 #[.val (.ref a)] [])
  refine go_ret X1 hx hret hlk (hb hby d1_4) ?_ (by decide) (by decide)
  try rw [e1]
  exact ⟨rfl, rfl, rfl⟩
theorem ef_rmA (m : MethodId) (x0 : Addr) (x1 : Int32) : entryFrame m #[(.ref x0), (.int x1)] 4 = mkF m 0 #[.val (.ref x0), .val (.int x1), .unset, .unset] [] := by first | (simp [entryFrame, mkF, argsToLocals, Value.category]; done) | rfl
theorem d4_0 : decode prog_67_method_4_code 0 = .ok (.lconst 1, 1) := by decide +kernel
theorem d4_1 : decode prog_67_method_4_code 1 = .ok (.iload_n 1, 1) := by decide +kernel
theorem d4_2 : decode prog_67_method_4_code 2 = .ok (.lshl, 1) := by decide +kernel
theorem d4_3 : decode prog_67_method_4_code 3 = .ok (.lstore_n 2, 1) := by decide +kernel
theorem d4_4 : decode prog_67_method_4_code 4 = .ok (.iload_n 1, 1) := by decide +kernel
theorem d4_5 : decode prog_67_method_4_code 5 = .ok (.bipush 64, 2) := by decide +kernel
theorem d4_7 : decode prog_67_method_4_code 7 = .ok (.if_icmp .ge 16, 3) := by decide +kernel
theorem d4_10 : decode prog_67_method_4_code 10 = .ok (.aload_n 0, 1) := by decide +kernel
theorem d4_11 : decode prog_67_method_4_code 11 = .ok (.dup, 1) := by decide +kernel
theorem d4_12 : decode prog_67_method_4_code 12 = .ok (.getfield 13, 3) := by decide +kernel
theorem d4_15 : decode prog_67_method_4_code 15 = .ok (.lload_n 2, 1) := by decide +kernel
theorem d4_16 : decode prog_67_method_4_code 16 = .ok (.lor, 1) := by decide +kernel
theorem d4_17 : decode prog_67_method_4_code 17 = .ok (.putfield 13, 3) := by decide +kernel
theorem d4_20 : decode prog_67_method_4_code 20 = .ok (.goto 53, 3) := by decide +kernel
theorem d4_73 : decode prog_67_method_4_code 73 = .ok (.return_, 1) := by decide +kernel
theorem d4_23 : decode prog_67_method_4_code 23 = .ok (.iload_n 1, 1) := by decide +kernel
theorem d4_24 : decode prog_67_method_4_code 24 = .ok (.sipush 128, 3) := by decide +kernel
theorem d4_27 : decode prog_67_method_4_code 27 = .ok (.if_icmp .ge 16, 3) := by decide +kernel
theorem d4_30 : decode prog_67_method_4_code 30 = .ok (.aload_n 0, 1) := by decide +kernel
theorem d4_31 : decode prog_67_method_4_code 31 = .ok (.dup, 1) := by decide +kernel
theorem d4_32 : decode prog_67_method_4_code 32 = .ok (.getfield 17, 3) := by decide +kernel
theorem d4_35 : decode prog_67_method_4_code 35 = .ok (.lload_n 2, 1) := by decide +kernel
theorem d4_36 : decode prog_67_method_4_code 36 = .ok (.lor, 1) := by decide +kernel
theorem d4_37 : decode prog_67_method_4_code 37 = .ok (.putfield 17, 3) := by decide +kernel
theorem d4_40 : decode prog_67_method_4_code 40 = .ok (.goto 33, 3) := by decide +kernel
theorem d4_43 : decode prog_67_method_4_code 43 = .ok (.iload_n 1, 1) := by decide +kernel
theorem d4_44 : decode prog_67_method_4_code 44 = .ok (.sipush 192, 3) := by decide +kernel
theorem d4_47 : decode prog_67_method_4_code 47 = .ok (.if_icmp .ge 16, 3) := by decide +kernel
theorem d4_50 : decode prog_67_method_4_code 50 = .ok (.aload_n 0, 1) := by decide +kernel
theorem d4_51 : decode prog_67_method_4_code 51 = .ok (.dup, 1) := by decide +kernel
theorem d4_52 : decode prog_67_method_4_code 52 = .ok (.getfield 20, 3) := by decide +kernel
theorem d4_55 : decode prog_67_method_4_code 55 = .ok (.lload_n 2, 1) := by decide +kernel
theorem d4_56 : decode prog_67_method_4_code 56 = .ok (.lor, 1) := by decide +kernel
theorem d4_57 : decode prog_67_method_4_code 57 = .ok (.putfield 20, 3) := by decide +kernel
theorem d4_60 : decode prog_67_method_4_code 60 = .ok (.goto 13, 3) := by decide +kernel
theorem d4_63 : decode prog_67_method_4_code 63 = .ok (.aload_n 0, 1) := by decide +kernel
theorem d4_64 : decode prog_67_method_4_code 64 = .ok (.dup, 1) := by decide +kernel
theorem d4_65 : decode prog_67_method_4_code 65 = .ok (.getfield 23, 3) := by decide +kernel
theorem d4_68 : decode prog_67_method_4_code 68 = .ok (.lload_n 2, 1) := by decide +kernel
theorem d4_69 : decode prog_67_method_4_code 69 = .ok (.lor, 1) := by decide +kernel
theorem d4_70 : decode prog_67_method_4_code 70 = .ok (.putfield 23, 3) := by decide +kernel
set_option maxRecDepth 65536 in
set_option maxHeartbeats 40000000 in
theorem rmA (l : Launch) (Z : State) (a0 : Array Value) (hw : ∀ d ∈ tables_1, d.before a0 Z = true) (ws : List Jvm.Cond) (a : Addr) (n : Nat) (u0 u1 u2 u3 : Int64) (S : Nat → Bool) (h0 : Heap) (n0 : Nat) (Z0 : n0 ≤ h0.size) (hn : n < 256) (hB : Bits S u0 u1 u2 u3) (E_a : Exa Z h0 a "com/example/touchtree/touchtree/node/PointerSet") (F_0 : Fld Z h0 a "com/example/touchtree/touchtree/node/PointerSet" "bits0" "J" (.long u0)) (F_1 : Fld Z h0 a "com/example/touchtree/touchtree/node/PointerSet" "bits1" "J" (.long u1)) (F_2 : Fld Z h0 a "com/example/touchtree/touchtree/node/PointerSet" "bits2" "J" (.long u2)) (F_3 : Fld Z h0 a "com/example/touchtree/touchtree/node/PointerSet" "bits3" "J" (.long u3)) (g_a : n0 ≤ a) :
    Ctr l Z (⟨"com/example/touchtree/touchtree/node/PointerSet", "add", "(I)V"⟩ : MethodName) prog_67_method_4_code 4 none ws ({ frames := 0, cells := 0, slots := 0, locals := 0 } : Room) 0 0 #[(.ref a), (.int (Int32.ofNat n))] h0 (fun v h L => v = none ∧ Fr n0 L ∧ Keep h0 h [a] ∧ Exa Z h a "com/example/touchtree/touchtree/node/PointerSet" ∧ ∃ v0 v1 v2 v3 : Int64, Fld Z h a "com/example/touchtree/touchtree/node/PointerSet" "bits0" "J" (.long v0) ∧ Fld Z h a "com/example/touchtree/touchtree/node/PointerSet" "bits1" "J" (.long v1) ∧ Fld Z h a "com/example/touchtree/touchtree/node/PointerSet" "bits2" "J" (.long v2) ∧ Fld Z h a "com/example/touchtree/touchtree/node/PointerSet" "bits3" "J" (.long v3) ∧ Bits (ins S n) v0 v1 v2 v3) := by
  refine Ctr.mk (plainFor_of_name pn_0) fun p e s m below meth c T0 X0 C e0 => go_cast (ef_rmA m a (Int32.ofNat n)) ?_
  have N0 := Fr.nil n0
  obtain ⟨hx, hZ, hby, hml, hown, hnm, hret, hlk⟩ := C
  obtain ⟨hI, eI⟩ : ∃ z, z = h0 := ⟨_, rfl⟩
  have K0 : Keep hI h0 [a] := by rw [eI]; exact Keep.refl _ _
  show Go _ _ _ _ _ _ _ T0 (mkF m 0 #[.val (.ref a), .val (.int (Int32.ofNat n)), .unset, .unset] [])
  refine Go.step (fun t k => XS.lconst X0.here hx rfl (hb hby d4_0) k) ?_
  show Go _ _ _ _ _ _ _ T0 (mkF m 1 #[.val (.ref a), .val (.int (Int32.ofNat n)), .unset, .unset] [(.long (1 : Int64))])
  refine Go.step (fun t k => XS.iloadN X0.here hx rfl (hb hby d4_1) rfl k) ?_
  show Go _ _ _ _ _ _ _ T0 (mkF m 2 #[.val (.ref a), .val (.int (Int32.ofNat n)), .unset, .unset] [(.int (Int32.ofNat n)), (.long (1 : Int64))])
  refine Go.step (fun t k => XS.lshl X0.here hx rfl (hb hby d4_2) rfl k) ?_
  show Go _ _ _ _ _ _ _ T0 (mkF m 3 #[.val (.ref a), .val (.int (Int32.ofNat n)), .unset, .unset] [(.long ((1 : Int64) <<< ((Int32.ofNat n) &&& 0x3f).toInt64))])
  refine Go.step (fun t k => XS.lstoreN X0.here hx rfl (hb hby d4_3) rfl (l' := #[.val (.ref a), .val (.int (Int32.ofNat n)), .val (.long ((1 : Int64) <<< ((Int32.ofNat n) &&& 0x3f).toInt64)), .second]) rfl k) ?_
  show Go _ _ _ _ _ _ _ T0 (mkF m 4 #[.val (.ref a), .val (.int (Int32.ofNat n)), .val (.long ((1 : Int64) <<< ((Int32.ofNat n) &&& 0x3f).toInt64)), .second] [])
  refine Go.step (fun t k => XS.iloadN X0.here hx rfl (hb hby d4_4) rfl k) ?_
  show Go _ _ _ _ _ _ _ T0 (mkF m 5 #[.val (.ref a), .val (.int (Int32.ofNat n)), .val (.long ((1 : Int64) <<< ((Int32.ofNat n) &&& 0x3f).toInt64)), .second] [(.int (Int32.ofNat n))])
  refine Go.step (fun t k => XS.bipush X0.here hx rfl (hb hby d4_5) k) ?_
  show Go _ _ _ _ _ _ _ T0 (mkF m 7 #[.val (.ref a), .val (.int (Int32.ofNat n)), .val (.long ((1 : Int64) <<< ((Int32.ofNat n) &&& 0x3f).toInt64)), .second] [(.int (64 : Int32)), (.int (Int32.ofNat n))])
  by_cases c7_1 : (Int32.ofNat n) < (64 : Int32)
  · refine Go.step (fun t k => XS.icmpNo X0.here hx rfl (hb hby d4_7) rfl (tlt c7_1).2.1 k) ?_
    show Go _ _ _ _ _ _ _ T0 (mkF m 10 #[.val (.ref a), .val (.int (Int32.ofNat n)), .val (.long ((1 : Int64) <<< ((Int32.ofNat n) &&& 0x3f).toInt64)), .second] [])
    refine Go.step (fun t k => XS.aloadN X0.here hx rfl (hb hby d4_10) rfl rfl k) ?_
    show Go _ _ _ _ _ _ _ T0 (mkF m 11 #[.val (.ref a), .val (.int (Int32.ofNat n)), .val (.long ((1 : Int64) <<< ((Int32.ofNat n) &&& 0x3f).toInt64)), .second] [(.ref a)])
    refine Go.step (fun t k => XS.dup X0.here hx rfl (hb hby d4_11) rfl rfl k) ?_
    show Go _ _ _ _ _ _ _ T0 (mkF m 12 #[.val (.ref a), .val (.int (Int32.ofNat n)), .val (.long ((1 : Int64) <<< ((Int32.ofNat n) &&& 0x3f).toInt64)), .second] [(.ref a), (.ref a)])
    obtain ⟨T2, X2, e2, st2⟩ := getF X0 hx hZ hown (host := "") (Or.inl (hw _ (List.mem_of_getElem? (i := 14) rfl))) Via.refl e0 F_0 (g := (mkF m 12 #[.val (.ref a), .val (.int (Int32.ofNat n)), .val (.long ((1 : Int64) <<< ((Int32.ofNat n) &&& 0x3f).toInt64)), .second] [(.ref a), (.ref a)])) rfl rfl (hb hby d4_12)
    refine Go.step (st2) ?_
    show Go _ _ _ _ _ _ _ T2 (mkF m 15 #[.val (.ref a), .val (.int (Int32.ofNat n)), .val (.long ((1 : Int64) <<< ((Int32.ofNat n) &&& 0x3f).toInt64)), .second] [(.long u0), (.ref a)])
    refine Go.step (fun t k => XS.lloadN X2.here hx rfl (hb hby d4_15) rfl k) ?_
    show Go _ _ _ _ _ _ _ T2 (mkF m 16 #[.val (.ref a), .val (.int (Int32.ofNat n)), .val (.long ((1 : Int64) <<< ((Int32.ofNat n) &&& 0x3f).toInt64)), .second] [(.long ((1 : Int64) <<< ((Int32.ofNat n) &&& 0x3f).toInt64)), (.long u0), (.ref a)])
    refine Go.step (fun t k => XS.lor X2.here hx rfl (hb hby d4_16) rfl k) ?_
    show Go _ _ _ _ _ _ _ T2 (mkF m 17 #[.val (.ref a), .val (.int (Int32.ofNat n)), .val (.long ((1 : Int64) <<< ((Int32.ofNat n) &&& 0x3f).toInt64)), .second] [(.long (u0 ||| ((1 : Int64) <<< ((Int32.ofNat n) &&& 0x3f).toInt64))), (.ref a)])
    obtain ⟨T3, h3, X3, e3, W3, st3⟩ := putF X2 hx hZ hown (host := "") (Or.inl (hw _ (List.mem_of_getElem? (i := 14) rfl))) Via.refl e2 F_0 E_a (Or.inl (hw _ (List.mem_of_getElem? (i := 15) rfl))) (hw _ (List.mem_of_getElem? (i := 1) rfl)) (ty := .long) (by decide) rfl rfl (g := (mkF m 17 #[.val (.ref a), .val (.int (Int32.ofNat n)), .val (.long ((1 : Int64) <<< ((Int32.ofNat n) &&& 0x3f).toInt64)), .second] [(.long (u0 ||| ((1 : Int64) <<< ((Int32.ofNat n) &&& 0x3f).toInt64))), (.ref a)])) rfl rfl (hb hby d4_17)
    have F3 := Fld.same W3 F_0
    have N3 := Fr.snoc X3 N0 g_a
    have Z3 : n0 ≤ h3.size := Nat.le_trans Z0 (Keep.of_wr W3).1
    have K3 : Keep hI h3 [a] := K0.wr W3 (Or.inl (List.mem_of_getElem? (i := 0) rfl))
    refine Go.step (st3) ?_
    show Go _ _ _ _ _ _ _ T3 (mkF m 20 #[.val (.ref a), .val (.int (Int32.ofNat n)), .val (.long ((1 : Int64) <<< ((Int32.ofNat n) &&& 0x3f).toInt64)), .second] [])
    refine Go.step (fun t k => XS.goto X3.here hx rfl (pc0 := 20) (pc' := 73) rfl (hb hby d4_20) (by decide) (by decide) k) ?_
    show Go _ _ _ _ _ _ _ T3 (mkF m 73 #[.val (.ref a), .val (.int (Int32.ofNat n)), .val (.long ((1 : Int64) <<< ((Int32.ofNat n) &&& 0x3f).toInt64)), .second] [])
    have f4 := (Exa.wr W3 E_a)
    have f5 := (Fld.other W3 F_1 (Or.inr (slot_ne (Or.inl (hw _ (List.mem_of_getElem? (i := 17) rfl))) (Or.inl (hw _ (List.mem_of_getElem? (i := 15) rfl))) (by decide) (t := .long) (t' := .long) (by decide) (by decide))))
    have f6 := (Fld.other W3 F_2 (Or.inr (slot_ne (Or.inl (hw _ (List.mem_of_getElem? (i := 19) rfl))) (Or.inl (hw _ (List.mem_of_getElem? (i := 15) rfl))) (by decide) (t := .long) (t' := .long) (by decide) (by decide))))
    have f7 := (Fld.other W3 F_3 (Or.inr (slot_ne (Or.inl (hw _ (List.mem_of_getElem? (i := 21) rfl))) (Or.inl (hw _ (List.mem_of_getElem? (i := 15) rfl))) (by decide) (t := .long) (t' := .long) (by decide) (by decide))))
    refine go_ret X3 hx hret hlk (hb hby d4_73) ?_ (by decide) (by decide)
    try rw [e3]
    exact ⟨rfl, N3, eI ▸ K3, f4, _, _, _, _, F3, f5, f6, f7, hB.add0 ((own_cl n 64 hn (by decide)).mp c7_1)⟩
  · refine Go.step (fun t k => XS.icmpYes X0.here hx rfl (pc0 := 7) (pc' := 23) rfl (hb hby d4_7) rfl (flt c7_1).2.1 (by decide) (by decide) k) ?_
    show Go _ _ _ _ _ _ _ T0 (mkF m 23 #[.val (.ref a), .val (.int (Int32.ofNat n)), .val (.long ((1 : Int64) <<< ((Int32.ofNat n) &&& 0x3f).toInt64)), .second] [])
    refine Go.step (fun t k => XS.iloadN X0.here hx rfl (hb hby d4_23) rfl k) ?_
    show Go _ _ _ _ _ _ _ T0 (mkF m 24 #[.val (.ref a), .val (.int (Int32.ofNat n)), .val (.long ((1 : Int64) <<< ((Int32.ofNat n) &&& 0x3f).toInt64)), .second] [(.int (Int32.ofNat n))])
    refine Go.step (fun t k => XS.sipush X0.here hx rfl (hb hby d4_24) k) ?_
    show Go _ _ _ _ _ _ _ T0 (mkF m 27 #[.val (.ref a), .val (.int (Int32.ofNat n)), .val (.long ((1 : Int64) <<< ((Int32.ofNat n) &&& 0x3f).toInt64)), .second] [(.int (128 : Int32)), (.int (Int32.ofNat n))])
    by_cases c27_8 : (Int32.ofNat n) < (128 : Int32)
    · refine Go.step (fun t k => XS.icmpNo X0.here hx rfl (hb hby d4_27) rfl (tlt c27_8).2.1 k) ?_
      show Go _ _ _ _ _ _ _ T0 (mkF m 30 #[.val (.ref a), .val (.int (Int32.ofNat n)), .val (.long ((1 : Int64) <<< ((Int32.ofNat n) &&& 0x3f).toInt64)), .second] [])
      refine Go.step (fun t k => XS.aloadN X0.here hx rfl (hb hby d4_30) rfl rfl k) ?_
      show Go _ _ _ _ _ _ _ T0 (mkF m 31 #[.val (.ref a), .val (.int (Int32.ofNat n)), .val (.long ((1 : Int64) <<< ((Int32.ofNat n) &&& 0x3f).toInt64)), .second] [(.ref a)])
      refine Go.step (fun t k => XS.dup X0.here hx rfl (hb hby d4_31) rfl rfl k) ?_
      show Go _ _ _ _ _ _ _ T0 (mkF m 32 #[.val (.ref a), .val (.int (Int32.ofNat n)), .val (.long ((1 : Int64) <<< ((Int32.ofNat n) &&& 0x3f).toInt64)), .second] [(.ref a), (.ref a)])
      obtain ⟨T9, X9, e9, st9⟩ := getF X0 hx hZ hown (host := "") (Or.inl (hw _ (List.mem_of_getElem? (i := 16) rfl))) Via.refl e0 F_1 (g := (mkF m 32 #[.val (.ref a), .val (.int (Int32.ofNat n)), .val (.long ((1 : Int64) <<< ((Int32.ofNat n) &&& 0x3f).toInt64)), .second] [(.ref a), (.ref a)])) rfl rfl (hb hby d4_32)
      refine Go.step (st9) ?_
      show Go _ _ _ _ _ _ _ T9 (mkF m 35 #[.val (.ref a), .val (.int (Int32.ofNat n)), .val (.long ((1 : Int64) <<< ((Int32.ofNat n) &&& 0x3f).toInt64)), .second] [(.long u1), (.ref a)])
      refine Go.step (fun t k => XS.lloadN X9.here hx rfl (hb hby d4_35) rfl k) ?_
      show Go _ _ _ _ _ _ _ T9 (mkF m 36 #[.val (.ref a), .val (.int (Int32.ofNat n)), .val (.long ((1 : Int64) <<< ((Int32.ofNat n) &&& 0x3f).toInt64)), .second] [(.long ((1 : Int64) <<< ((Int32.ofNat n) &&& 0x3f).toInt64)), (.long u1), (.ref a)])
      refine Go.step (fun t k => XS.lor X9.here hx rfl (hb hby d4_36) rfl k) ?_
      show Go _ _ _ _ _ _ _ T9 (mkF m 37 #[.val (.ref a), .val (.int (Int32.ofNat n)), .val (.long ((1 : Int64) <<< ((Int32.ofNat n) &&& 0x3f).toInt64)), .second] [(.long (u1 ||| ((1 : Int64) <<< ((Int32.ofNat n) &&& 0x3f).toInt64))), (.ref a)])
      obtain ⟨T10, h10, X10, e10, W10, st10⟩ := putF X9 hx hZ hown (host := "") (Or.inl (hw _ (List.mem_of_getElem? (i := 16) rfl))) Via.refl e9 F_1 E_a (Or.inl (hw _ (List.mem_of_getElem? (i := 17) rfl))) (hw _ (List.mem_of_getElem? (i := 1) rfl)) (ty := .long) (by decide) rfl rfl (g := (mkF m 37 #[.val (.ref a), .val (.int (Int32.ofNat n)), .val (.long ((1 : Int64) <<< ((Int32.ofNat n) &&& 0x3f).toInt64)), .second] [(.long (u1 ||| ((1 : Int64) <<< ((Int32.ofNat n) &&& 0x3f).toInt64))), (.ref a)])) rfl rfl (hb hby d4_37)
      have F10 := Fld.same W10 F_1
      have N10 := Fr.snoc X10 N0 g_a
      have Z10 : n0 ≤ h10.size := Nat.le_trans Z0 (Keep.of_wr W10).1
      have K10 : Keep hI h10 [a] := K0.wr W10 (Or.inl (List.mem_of_getElem? (i := 0) rfl))
      refine Go.step (st10) ?_
      show Go _ _ _ _ _ _ _ T10 (mkF m 40 #[.val (.ref a), .val (.int (Int32.ofNat n)), .val (.long ((1 : Int64) <<< ((Int32.ofNat n) &&& 0x3f).toInt64)), .second] [])
      refine Go.step (fun t k => XS.goto X10.here hx rfl (pc0 := 40) (pc' := 73) rfl (hb hby d4_40) (by decide) (by decide) k) ?_
      show Go _ _ _ _ _ _ _ T10 (mkF m 73 #[.val (.ref a), .val (.int (Int32.ofNat n)), .val (.long ((1 : Int64) <<< ((Int32.ofNat n) &&& 0x3f).toInt64)), .second] [])
      have f11 := (Exa.wr W10 E_a)
      have f12 := (Fld.other W10 F_0 (Or.inr (slot_ne (Or.inl (hw _ (List.mem_of_getElem? (i := 15) rfl))) (Or.inl (hw _ (List.mem_of_getElem? (i := 17) rfl))) (by decide) (t := .long) (t' := .long) (by decide) (by decide))))
      have f13 := (Fld.other W10 F_2 (Or.inr (slot_ne (Or.inl (hw _ (List.mem_of_getElem? (i := 19) rfl))) (Or.inl (hw _ (List.mem_of_getElem? (i := 17) rfl))) (by decide) (t := .long) (t' := .long) (by decide) (by decide))))
      have f14 := (Fld.other W10 F_3 (Or.inr (slot_ne (Or.inl (hw _ (List.mem_of_getElem? (i := 21) rfl))) (Or.inl (hw _ (List.mem_of_getElem? (i := 17) rfl))) (by decide) (t := .long) (t' := .long) (by decide) (by decide))))
      refine go_ret X10 hx hret hlk (hb hby d4_73) ?_ (by decide) (by decide)
      try rw [e10]
      exact ⟨rfl, N10, eI ▸ K10, f11, _, _, _, _, f12, F10, f13, f14, hB.add1 (mt (own_cl n 64 hn (by decide)).mpr c7_1) ((own_cl n 128 hn (by decide)).mp c27_8)⟩
    · refine Go.step (fun t k => XS.icmpYes X0.here hx rfl (pc0 := 27) (pc' := 43) rfl (hb hby d4_27) rfl (flt c27_8).2.1 (by decide) (by decide) k) ?_
      show Go _ _ _ _ _ _ _ T0 (mkF m 43 #[.val (.ref a), .val (.int (Int32.ofNat n)), .val (.long ((1 : Int64) <<< ((Int32.ofNat n) &&& 0x3f).toInt64)), .second] [])
      refine Go.step (fun t k => XS.iloadN X0.here hx rfl (hb hby d4_43) rfl k) ?_
      show Go _ _ _ _ _ _ _ T0 (mkF m 44 #[.val (.ref a), .val (.int (Int32.ofNat n)), .val (.long ((1 : Int64) <<< ((Int32.ofNat n) &&& 0x3f).toInt64)), .second] [(.int (Int32.ofNat n))])
      refine Go.step (fun t k => XS.sipush X0.here hx rfl (hb hby d4_44) k) ?_
      show Go _ _ _ _ _ _ _ T0 (mkF m 47 #[.val (.ref a), .val (.int (Int32.ofNat n)), .val (.long ((1 : Int64) <<< ((Int32.ofNat n) &&& 0x3f).toInt64)), .second] [(.int (192 : Int32)), (.int (Int32.ofNat n))])
      by_cases c47_15 : (Int32.ofNat n) < (192 : Int32)
      · refine Go.step (fun t k => XS.icmpNo X0.here hx rfl (hb hby d4_47) rfl (tlt c47_15).2.1 k) ?_
        show Go _ _ _ _ _ _ _ T0 (mkF m 50 #[.val (.ref a), .val (.int (Int32.ofNat n)), .val (.long ((1 : Int64) <<< ((Int32.ofNat n) &&& 0x3f).toInt64)), .second] [])
        refine Go.step (fun t k => XS.aloadN X0.here hx rfl (hb hby d4_50) rfl rfl k) ?_
        show Go _ _ _ _ _ _ _ T0 (mkF m 51 #[.val (.ref a), .val (.int (Int32.ofNat n)), .val (.long ((1 : Int64) <<< ((Int32.ofNat n) &&& 0x3f).toInt64)), .second] [(.ref a)])
        refine Go.step (fun t k => XS.dup X0.here hx rfl (hb hby d4_51) rfl rfl k) ?_
        show Go _ _ _ _ _ _ _ T0 (mkF m 52 #[.val (.ref a), .val (.int (Int32.ofNat n)), .val (.long ((1 : Int64) <<< ((Int32.ofNat n) &&& 0x3f).toInt64)), .second] [(.ref a), (.ref a)])
        obtain ⟨T16, X16, e16, st16⟩ := getF X0 hx hZ hown (host := "") (Or.inl (hw _ (List.mem_of_getElem? (i := 18) rfl))) Via.refl e0 F_2 (g := (mkF m 52 #[.val (.ref a), .val (.int (Int32.ofNat n)), .val (.long ((1 : Int64) <<< ((Int32.ofNat n) &&& 0x3f).toInt64)), .second] [(.ref a), (.ref a)])) rfl rfl (hb hby d4_52)
        refine Go.step (st16) ?_
        show Go _ _ _ _ _ _ _ T16 (mkF m 55 #[.val (.ref a), .val (.int (Int32.ofNat n)), .val (.long ((1 : Int64) <<< ((Int32.ofNat n) &&& 0x3f).toInt64)), .second] [(.long u2), (.ref a)])
        refine Go.step (fun t k => XS.lloadN X16.here hx rfl (hb hby d4_55) rfl k) ?_
        show Go _ _ _ _ _ _ _ T16 (mkF m 56 #[.val (.ref a), .val (.int (Int32.ofNat n)), .val (.long ((1 : Int64) <<< ((Int32.ofNat n) &&& 0x3f).toInt64)), .second] [(.long ((1 : Int64) <<< ((Int32.ofNat n) &&& 0x3f).toInt64)), (.long u2), (.ref a)])
        refine Go.step (fun t k => XS.lor X16.here hx rfl (hb hby d4_56) rfl k) ?_
        show Go _ _ _ _ _ _ _ T16 (mkF m 57 #[.val (.ref a), .val (.int (Int32.ofNat n)), .val (.long ((1 : Int64) <<< ((Int32.ofNat n) &&& 0x3f).toInt64)), .second] [(.long (u2 ||| ((1 : Int64) <<< ((Int32.ofNat n) &&& 0x3f).toInt64))), (.ref a)])
        obtain ⟨T17, h17, X17, e17, W17, st17⟩ := putF X16 hx hZ hown (host := "") (Or.inl (hw _ (List.mem_of_getElem? (i := 18) rfl))) Via.refl e16 F_2 E_a (Or.inl (hw _ (List.mem_of_getElem? (i := 19) rfl))) (hw _ (List.mem_of_getElem? (i := 1) rfl)) (ty := .long) (by decide) rfl rfl (g := (mkF m 57 #[.val (.ref a), .val (.int (Int32.ofNat n)), .val (.long ((1 : Int64) <<< ((Int32.ofNat n) &&& 0x3f).toInt64)), .second] [(.long (u2 ||| ((1 : Int64) <<< ((Int32.ofNat n) &&& 0x3f).toInt64))), (.ref a)])) rfl rfl (hb hby d4_57)
        have F17 := Fld.same W17 F_2
        have N17 := Fr.snoc X17 N0 g_a
        have Z17 : n0 ≤ h17.size := Nat.le_trans Z0 (Keep.of_wr W17).1
        have K17 : Keep hI h17 [a] := K0.wr W17 (Or.inl (List.mem_of_getElem? (i := 0) rfl))
        refine Go.step (st17) ?_
        show Go _ _ _ _ _ _ _ T17 (mkF m 60 #[.val (.ref a), .val (.int (Int32.ofNat n)), .val (.long ((1 : Int64) <<< ((Int32.ofNat n) &&& 0x3f).toInt64)), .second] [])
        refine Go.step (fun t k => XS.goto X17.here hx rfl (pc0 := 60) (pc' := 73) rfl (hb hby d4_60) (by decide) (by decide) k) ?_
        show Go _ _ _ _ _ _ _ T17 (mkF m 73 #[.val (.ref a), .val (.int (Int32.ofNat n)), .val (.long ((1 : Int64) <<< ((Int32.ofNat n) &&& 0x3f).toInt64)), .second] [])
        have f18 := (Exa.wr W17 E_a)
        have f19 := (Fld.other W17 F_0 (Or.inr (slot_ne (Or.inl (hw _ (List.mem_of_getElem? (i := 15) rfl))) (Or.inl (hw _ (List.mem_of_getElem? (i := 19) rfl))) (by decide) (t := .long) (t' := .long) (by decide) (by decide))))
        have f20 := (Fld.other W17 F_1 (Or.inr (slot_ne (Or.inl (hw _ (List.mem_of_getElem? (i := 17) rfl))) (Or.inl (hw _ (List.mem_of_getElem? (i := 19) rfl))) (by decide) (t := .long) (t' := .long) (by decide) (by decide))))
        have f21 := (Fld.other W17 F_3 (Or.inr (slot_ne (Or.inl (hw _ (List.mem_of_getElem? (i := 21) rfl))) (Or.inl (hw _ (List.mem_of_getElem? (i := 19) rfl))) (by decide) (t := .long) (t' := .long) (by decide) (by decide))))
        refine go_ret X17 hx hret hlk (hb hby d4_73) ?_ (by decide) (by decide)
        try rw [e17]
        exact ⟨rfl, N17, eI ▸ K17, f18, _, _, _, _, f19, f20, F17, f21, hB.add2 (mt (own_cl n 128 hn (by decide)).mpr c27_8) ((own_cl n 192 hn (by decide)).mp c47_15)⟩
      · refine Go.step (fun t k => XS.icmpYes X0.here hx rfl (pc0 := 47) (pc' := 63) rfl (hb hby d4_47) rfl (flt c47_15).2.1 (by decide) (by decide) k) ?_
        show Go _ _ _ _ _ _ _ T0 (mkF m 63 #[.val (.ref a), .val (.int (Int32.ofNat n)), .val (.long ((1 : Int64) <<< ((Int32.ofNat n) &&& 0x3f).toInt64)), .second] [])
        refine Go.step (fun t k => XS.aloadN X0.here hx rfl (hb hby d4_63) rfl rfl k) ?_
        show Go _ _ _ _ _ _ _ T0 (mkF m 64 #[.val (.ref a), .val (.int (Int32.ofNat n)), .val (.long ((1 : Int64) <<< ((Int32.ofNat n) &&& 0x3f).toInt64)), .second] [(.ref a)])
        refine Go.step (fun t k => XS.dup X0.here hx rfl (hb hby d4_64) rfl rfl k) ?_
        show Go _ _ _ _ _ _ _ T0 (mkF m 65 #[.val (.ref a), .val (.int (Int32.ofNat n)), .val (.long ((1 : Int64) <<< ((Int32.ofNat n) &&& 0x3f).toInt64)), .second] [(.ref a), (.ref a)])
        obtain ⟨T22, X22, e22, st22⟩ := getF X0 hx hZ hown (host := "") (Or.inl (hw _ (List.mem_of_getElem? (i := 20) rfl))) Via.refl e0 F_3 (g := (mkF m 65 #[.val (.ref a), .val (.int (Int32.ofNat n)), .val (.long ((1 : Int64) <<< ((Int32.ofNat n) &&& 0x3f).toInt64)), .second] [(.ref a), (.ref a)])) rfl rfl (hb hby d4_65)
        refine Go.step (st22) ?_
        show Go _ _ _ _ _ _ _ T22 (mkF m 68 #[.val (.ref a), .val (.int (Int32.ofNat n)), .val (.long ((1 : Int64) <<< ((Int32.ofNat n) &&& 0x3f).toInt64)), .second] [(.long u3), (.ref a)])
        refine Go.step (fun t k => XS.lloadN X22.here hx rfl (hb hby d4_68) rfl k) ?_
        show Go _ _ _ _ _ _ _ T22 (mkF m 69 #[.val (.ref a), .val (.int (Int32.ofNat n)), .val (.long ((1 : Int64) <<< ((Int32.ofNat n) &&& 0x3f).toInt64)), .second] [(.long ((1 : Int64) <<< ((Int32.ofNat n) &&& 0x3f).toInt64)), (.long u3), (.ref a)])
        refine Go.step (fun t k => XS.lor X22.here hx rfl (hb hby d4_69) rfl k) ?_
        show Go _ _ _ _ _ _ _ T22 (mkF m 70 #[.val (.ref a), .val (.int (Int32.ofNat n)), .val (.long ((1 : Int64) <<< ((Int32.ofNat n) &&& 0x3f).toInt64)), .second] [(.long (u3 ||| ((1 : Int64) <<< ((Int32.ofNat n) &&& 0x3f).toInt64))), (.ref a)])
        obtain ⟨T23, h23, X23, e23, W23, st23⟩ := putF X22 hx hZ hown (host := "") (Or.inl (hw _ (List.mem_of_getElem? (i := 20) rfl))) Via.refl e22 F_3 E_a (Or.inl (hw _ (List.mem_of_getElem? (i := 21) rfl))) (hw _ (List.mem_of_getElem? (i := 1) rfl)) (ty := .long) (by decide) rfl rfl (g := (mkF m 70 #[.val (.ref a), .val (.int (Int32.ofNat n)), .val (.long ((1 : Int64) <<< ((Int32.ofNat n) &&& 0x3f).toInt64)), .second] [(.long (u3 ||| ((1 : Int64) <<< ((Int32.ofNat n) &&& 0x3f).toInt64))), (.ref a)])) rfl rfl (hb hby d4_70)
        have F23 := Fld.same W23 F_3
        have N23 := Fr.snoc X23 N0 g_a
        have Z23 : n0 ≤ h23.size := Nat.le_trans Z0 (Keep.of_wr W23).1
        have K23 : Keep hI h23 [a] := K0.wr W23 (Or.inl (List.mem_of_getElem? (i := 0) rfl))
        refine Go.step (st23) ?_
        show Go _ _ _ _ _ _ _ T23 (mkF m 73 #[.val (.ref a), .val (.int (Int32.ofNat n)), .val (.long ((1 : Int64) <<< ((Int32.ofNat n) &&& 0x3f).toInt64)), .second] [])
        have f24 := (Exa.wr W23 E_a)
        have f25 := (Fld.other W23 F_0 (Or.inr (slot_ne (Or.inl (hw _ (List.mem_of_getElem? (i := 15) rfl))) (Or.inl (hw _ (List.mem_of_getElem? (i := 21) rfl))) (by decide) (t := .long) (t' := .long) (by decide) (by decide))))
        have f26 := (Fld.other W23 F_1 (Or.inr (slot_ne (Or.inl (hw _ (List.mem_of_getElem? (i := 17) rfl))) (Or.inl (hw _ (List.mem_of_getElem? (i := 21) rfl))) (by decide) (t := .long) (t' := .long) (by decide) (by decide))))
        have f27 := (Fld.other W23 F_2 (Or.inr (slot_ne (Or.inl (hw _ (List.mem_of_getElem? (i := 19) rfl))) (Or.inl (hw _ (List.mem_of_getElem? (i := 21) rfl))) (by decide) (t := .long) (t' := .long) (by decide) (by decide))))
        refine go_ret X23 hx hret hlk (hb hby d4_73) ?_ (by decide) (by decide)
        try rw [e23]
        exact ⟨rfl, N23, eI ▸ K23, f24, _, _, _, _, f25, f26, f27, F23, hB.add3 (mt (own_cl n 192 hn (by decide)).mpr c47_15) hn⟩
theorem ef_rmR (m : MethodId) (x0 : Addr) (x1 : Int32) : entryFrame m #[(.ref x0), (.int x1)] 4 = mkF m 0 #[.val (.ref x0), .val (.int x1), .unset, .unset] [] := by first | (simp [entryFrame, mkF, argsToLocals, Value.category]; done) | rfl
theorem d5_0 : decode prog_67_method_5_code 0 = .ok (.lconst 1, 1) := by decide +kernel
theorem d5_1 : decode prog_67_method_5_code 1 = .ok (.iload_n 1, 1) := by decide +kernel
theorem d5_2 : decode prog_67_method_5_code 2 = .ok (.lshl, 1) := by decide +kernel
theorem d5_3 : decode prog_67_method_5_code 3 = .ok (.lstore_n 2, 1) := by decide +kernel
theorem d5_4 : decode prog_67_method_5_code 4 = .ok (.iload_n 1, 1) := by decide +kernel
theorem d5_5 : decode prog_67_method_5_code 5 = .ok (.bipush 64, 2) := by decide +kernel
theorem d5_7 : decode prog_67_method_5_code 7 = .ok (.if_icmp .ge 20, 3) := by decide +kernel
theorem d5_10 : decode prog_67_method_5_code 10 = .ok (.aload_n 0, 1) := by decide +kernel
theorem d5_11 : decode prog_67_method_5_code 11 = .ok (.dup, 1) := by decide +kernel
theorem d5_12 : decode prog_67_method_5_code 12 = .ok (.getfield 13, 3) := by decide +kernel
theorem d5_15 : decode prog_67_method_5_code 15 = .ok (.lload_n 2, 1) := by decide +kernel
theorem d5_16 : decode prog_67_method_5_code 16 = .ok (.ldc2_w 26, 3) := by decide +kernel
theorem d5_19 : decode prog_67_method_5_code 19 = .ok (.lxor, 1) := by decide +kernel
theorem d5_20 : decode prog_67_method_5_code 20 = .ok (.land, 1) := by decide +kernel
theorem d5_21 : decode prog_67_method_5_code 21 = .ok (.putfield 13, 3) := by decide +kernel
theorem d5_24 : decode prog_67_method_5_code 24 = .ok (.goto 65, 3) := by decide +kernel
theorem d5_89 : decode prog_67_method_5_code 89 = .ok (.return_, 1) := by decide +kernel
theorem d5_27 : decode prog_67_method_5_code 27 = .ok (.iload_n 1, 1) := by decide +kernel
theorem d5_28 : decode prog_67_method_5_code 28 = .ok (.sipush 128, 3) := by decide +kernel
theorem d5_31 : decode prog_67_method_5_code 31 = .ok (.if_icmp .ge 20, 3) := by decide +kernel
theorem d5_34 : decode prog_67_method_5_code 34 = .ok (.aload_n 0, 1) := by decide +kernel
theorem d5_35 : decode prog_67_method_5_code 35 = .ok (.dup, 1) := by decide +kernel
theorem d5_36 : decode prog_67_method_5_code 36 = .ok (.getfield 17, 3) := by decide +kernel
theorem d5_39 : decode prog_67_method_5_code 39 = .ok (.lload_n 2, 1) := by decide +kernel
theorem d5_40 : decode prog_67_method_5_code 40 = .ok (.ldc2_w 26, 3) := by decide +kernel
theorem d5_43 : decode prog_67_method_5_code 43 = .ok (.lxor, 1) := by decide +kernel
theorem d5_44 : decode prog_67_method_5_code 44 = .ok (.land, 1) := by decide +kernel
theorem d5_45 : decode prog_67_method_5_code 45 = .ok (.putfield 17, 3) := by decide +kernel
theorem d5_48 : decode prog_67_method_5_code 48 = .ok (.goto 41, 3) := by decide +kernel
theorem d5_51 : decode prog_67_method_5_code 51 = .ok (.iload_n 1, 1) := by decide +kernel
theorem d5_52 : decode prog_67_method_5_code 52 = .ok (.sipush 192, 3) := by decide +kernel
theorem d5_55 : decode prog_67_method_5_code 55 = .ok (.if_icmp .ge 20, 3) := by decide +kernel
theorem d5_58 : decode prog_67_method_5_code 58 = .ok (.aload_n 0, 1) := by decide +kernel
theorem d5_59 : decode prog_67_method_5_code 59 = .ok (.dup, 1) := by decide +kernel
theorem d5_60 : decode prog_67_method_5_code 60 = .ok (.getfield 20, 3) := by decide +kernel
theorem d5_63 : decode prog_67_method_5_code 63 = .ok (.lload_n 2, 1) := by decide +kernel
theorem d5_64 : decode prog_67_method_5_code 64 = .ok (.ldc2_w 26, 3) := by decide +kernel
theorem d5_67 : decode prog_67_method_5_code 67 = .ok (.lxor, 1) := by decide +kernel
theorem d5_68 : decode prog_67_method_5_code 68 = .ok (.land, 1) := by decide +kernel
theorem d5_69 : decode prog_67_method_5_code 69 = .ok (.putfield 20, 3) := by decide +kernel
theorem d5_72 : decode prog_67_method_5_code 72 = .ok (.goto 17, 3) := by decide +kernel
theorem d5_75 : decode prog_67_method_5_code 75 = .ok (.aload_n 0, 1) := by decide +kernel
theorem d5_76 : decode prog_67_method_5_code 76 = .ok (.dup, 1) := by decide +kernel
theorem d5_77 : decode prog_67_method_5_code 77 = .ok (.getfield 23, 3) := by decide +kernel
theorem d5_80 : decode prog_67_method_5_code 80 = .ok (.lload_n 2, 1) := by decide +kernel
theorem d5_81 : decode prog_67_method_5_code 81 = .ok (.ldc2_w 26, 3) := by decide +kernel
theorem d5_84 : decode prog_67_method_5_code 84 = .ok (.lxor, 1) := by decide +kernel
theorem d5_85 : decode prog_67_method_5_code 85 = .ok (.land, 1) := by decide +kernel
theorem d5_86 : decode prog_67_method_5_code 86 = .ok (.putfield 23, 3) := by decide +kernel
set_option maxRecDepth 65536 in
set_option maxHeartbeats 40000000 in
theorem rmR (l : Launch) (Z : State) (a0 : Array Value) (hw : ∀ d ∈ tables_1, d.before a0 Z = true) (ws : List Jvm.Cond) (a : Addr) (n : Nat) (u0 u1 u2 u3 : Int64) (S : Nat → Bool) (h0 : Heap) (n0 : Nat) (Z0 : n0 ≤ h0.size) (hn : n < 256) (hB : Bits S u0 u1 u2 u3) (E_a : Exa Z h0 a "com/example/touchtree/touchtree/node/PointerSet") (F_0 : Fld Z h0 a "com/example/touchtree/touchtree/node/PointerSet" "bits0" "J" (.long u0)) (F_1 : Fld Z h0 a "com/example/touchtree/touchtree/node/PointerSet" "bits1" "J" (.long u1)) (F_2 : Fld Z h0 a "com/example/touchtree/touchtree/node/PointerSet" "bits2" "J" (.long u2)) (F_3 : Fld Z h0 a "com/example/touchtree/touchtree/node/PointerSet" "bits3" "J" (.long u3)) (g_a : n0 ≤ a) :
    Ctr l Z (⟨"com/example/touchtree/touchtree/node/PointerSet", "remove", "(I)V"⟩ : MethodName) prog_67_method_5_code 4 none ws ({ frames := 0, cells := 0, slots := 0, locals := 0 } : Room) 0 0 #[(.ref a), (.int (Int32.ofNat n))] h0 (fun v h L => v = none ∧ Fr n0 L ∧ Keep h0 h [a] ∧ Exa Z h a "com/example/touchtree/touchtree/node/PointerSet" ∧ ∃ v0 v1 v2 v3 : Int64, Fld Z h a "com/example/touchtree/touchtree/node/PointerSet" "bits0" "J" (.long v0) ∧ Fld Z h a "com/example/touchtree/touchtree/node/PointerSet" "bits1" "J" (.long v1) ∧ Fld Z h a "com/example/touchtree/touchtree/node/PointerSet" "bits2" "J" (.long v2) ∧ Fld Z h a "com/example/touchtree/touchtree/node/PointerSet" "bits3" "J" (.long v3) ∧ Bits (del S n) v0 v1 v2 v3) := by
  refine Ctr.mk (plainFor_of_name pn_0) fun p e s m below meth c T0 X0 C e0 => go_cast (ef_rmR m a (Int32.ofNat n)) ?_
  have N0 := Fr.nil n0
  obtain ⟨hx, hZ, hby, hml, hown, hnm, hret, hlk⟩ := C
  obtain ⟨hI, eI⟩ : ∃ z, z = h0 := ⟨_, rfl⟩
  have K0 : Keep hI h0 [a] := by rw [eI]; exact Keep.refl _ _
  show Go _ _ _ _ _ _ _ T0 (mkF m 0 #[.val (.ref a), .val (.int (Int32.ofNat n)), .unset, .unset] [])
  refine Go.step (fun t k => XS.lconst X0.here hx rfl (hb hby d5_0) k) ?_
  show Go _ _ _ _ _ _ _ T0 (mkF m 1 #[.val (.ref a), .val (.int (Int32.ofNat n)), .unset, .unset] [(.long (1 : Int64))])
  refine Go.step (fun t k => XS.iloadN X0.here hx rfl (hb hby d5_1) rfl k) ?_
  show Go _ _ _ _ _ _ _ T0 (mkF m 2 #[.val (.ref a), .val (.int (Int32.ofNat n)), .unset, .unset] [(.int (Int32.ofNat n)), (.long (1 : Int64))])
  refine Go.step (fun t k => XS.lshl X0.here hx rfl (hb hby d5_2) rfl k) ?_
  show Go _ _ _ _ _ _ _ T0 (mkF m 3 #[.val (.ref a), .val (.int (Int32.ofNat n)), .unset, .unset] [(.long ((1 : Int64) <<< ((Int32.ofNat n) &&& 0x3f).toInt64))])
  refine Go.step (fun t k => XS.lstoreN X0.here hx rfl (hb hby d5_3) rfl (l' := #[.val (.ref a), .val (.int (Int32.ofNat n)), .val (.long ((1 : Int64) <<< ((Int32.ofNat n) &&& 0x3f).toInt64)), .second]) rfl k) ?_
  show Go _ _ _ _ _ _ _ T0 (mkF m 4 #[.val (.ref a), .val (.int (Int32.ofNat n)), .val (.long ((1 : Int64) <<< ((Int32.ofNat n) &&& 0x3f).toInt64)), .second] [])
  refine Go.step (fun t k => XS.iloadN X0.here hx rfl (hb hby d5_4) rfl k) ?_
  show Go _ _ _ _ _ _ _ T0 (mkF m 5 #[.val (.ref a), .val (.int (Int32.ofNat n)), .val (.long ((1 : Int64) <<< ((Int32.ofNat n) &&& 0x3f).toInt64)), .second] [(.int (Int32.ofNat n))])
  refine Go.step (fun t k => XS.bipush X0.here hx rfl (hb hby d5_5) k) ?_
  show Go _ _ _ _ _ _ _ T0 (mkF m 7 #[.val (.ref a), .val (.int (Int32.ofNat n)), .val (.long ((1 : Int64) <<< ((Int32.ofNat n) &&& 0x3f).toInt64)), .second] [(.int (64 : Int32)), (.int (Int32.ofNat n))])
  by_cases c7_1 : (Int32.ofNat n) < (64 : Int32)
  · refine Go.step (fun t k => XS.icmpNo X0.here hx rfl (hb hby d5_7) rfl (tlt c7_1).2.1 k) ?_
    show Go _ _ _ _ _ _ _ T0 (mkF m 10 #[.val (.ref a), .val (.int (Int32.ofNat n)), .val (.long ((1 : Int64) <<< ((Int32.ofNat n) &&& 0x3f).toInt64)), .second] [])
    refine Go.step (fun t k => XS.aloadN X0.here hx rfl (hb hby d5_10) rfl rfl k) ?_
    show Go _ _ _ _ _ _ _ T0 (mkF m 11 #[.val (.ref a), .val (.int (Int32.ofNat n)), .val (.long ((1 : Int64) <<< ((Int32.ofNat n) &&& 0x3f).toInt64)), .second] [(.ref a)])
    refine Go.step (fun t k => XS.dup X0.here hx rfl (hb hby d5_11) rfl rfl k) ?_
    show Go _ _ _ _ _ _ _ T0 (mkF m 12 #[.val (.ref a), .val (.int (Int32.ofNat n)), .val (.long ((1 : Int64) <<< ((Int32.ofNat n) &&& 0x3f).toInt64)), .second] [(.ref a), (.ref a)])
    obtain ⟨T2, X2, e2, st2⟩ := getF X0 hx hZ hown (host := "") (Or.inl (hw _ (List.mem_of_getElem? (i := 14) rfl))) Via.refl e0 F_0 (g := (mkF m 12 #[.val (.ref a), .val (.int (Int32.ofNat n)), .val (.long ((1 : Int64) <<< ((Int32.ofNat n) &&& 0x3f).toInt64)), .second] [(.ref a), (.ref a)])) rfl rfl (hb hby d5_12)
    refine Go.step (st2) ?_
    show Go _ _ _ _ _ _ _ T2 (mkF m 15 #[.val (.ref a), .val (.int (Int32.ofNat n)), .val (.long ((1 : Int64) <<< ((Int32.ofNat n) &&& 0x3f).toInt64)), .second] [(.long u0), (.ref a)])
    refine Go.step (fun t k => XS.lloadN X2.here hx rfl (hb hby d5_15) rfl k) ?_
    show Go _ _ _ _ _ _ _ T2 (mkF m 16 #[.val (.ref a), .val (.int (Int32.ofNat n)), .val (.long ((1 : Int64) <<< ((Int32.ofNat n) &&& 0x3f).toInt64)), .second] [(.long ((1 : Int64) <<< ((Int32.ofNat n) &&& 0x3f).toInt64)), (.long u0), (.ref a)])
    refine Go.step (X2.ldc2Long hx hown (mvT hZ (hw _ (List.mem_of_getElem? (i := 32) rfl))) (g := (mkF m 16 #[.val (.ref a), .val (.int (Int32.ofNat n)), .val (.long ((1 : Int64) <<< ((Int32.ofNat n) &&& 0x3f).toInt64)), .second] [(.long ((1 : Int64) <<< ((Int32.ofNat n) &&& 0x3f).toInt64)), (.long u0), (.ref a)])) rfl (hb hby d5_16)) ?_
    show Go _ _ _ _ _ _ _ T2 (mkF m 19 #[.val (.ref a), .val (.int (Int32.ofNat n)), .val (.long ((1 : Int64) <<< ((Int32.ofNat n) &&& 0x3f).toInt64)), .second] [(.long (-1 : Int64)), (.long ((1 : Int64) <<< ((Int32.ofNat n) &&& 0x3f).toInt64)), (.long u0), (.ref a)])
    refine Go.step (fun t k => XS.lxor X2.here hx rfl (hb hby d5_19) rfl k) ?_
    show Go _ _ _ _ _ _ _ T2 (mkF m 20 #[.val (.ref a), .val (.int (Int32.ofNat n)), .val (.long ((1 : Int64) <<< ((Int32.ofNat n) &&& 0x3f).toInt64)), .second] [(.long (((1 : Int64) <<< ((Int32.ofNat n) &&& 0x3f).toInt64) ^^^ (-1 : Int64))), (.long u0), (.ref a)])
    refine Go.step (fun t k => XS.land X2.here hx rfl (hb hby d5_20) rfl k) ?_
    show Go _ _ _ _ _ _ _ T2 (mkF m 21 #[.val (.ref a), .val (.int (Int32.ofNat n)), .val (.long ((1 : Int64) <<< ((Int32.ofNat n) &&& 0x3f).toInt64)), .second] [(.long (u0 &&& (((1 : Int64) <<< ((Int32.ofNat n) &&& 0x3f).toInt64) ^^^ (-1 : Int64)))), (.ref a)])
    obtain ⟨T3, h3, X3, e3, W3, st3⟩ := putF X2 hx hZ hown (host := "") (Or.inl (hw _ (List.mem_of_getElem? (i := 14) rfl))) Via.refl e2 F_0 E_a (Or.inl (hw _ (List.mem_of_getElem? (i := 15) rfl))) (hw _ (List.mem_of_getElem? (i := 1) rfl)) (ty := .long) (by decide) rfl rfl (g := (mkF m 21 #[.val (.ref a), .val (.int (Int32.ofNat n)), .val (.long ((1 : Int64) <<< ((Int32.ofNat n) &&& 0x3f).toInt64)), .second] [(.long (u0 &&& (((1 : Int64) <<< ((Int32.ofNat n) &&& 0x3f).toInt64) ^^^ (-1 : Int64)))), (.ref a)])) rfl rfl (hb hby d5_21)
    have F3 := Fld.same W3 F_0
    have N3 := Fr.snoc X3 N0 g_a
    have Z3 : n0 ≤ h3.size := Nat.le_trans Z0 (Keep.of_wr W3).1
    have K3 : Keep hI h3 [a] := K0.wr W3 (Or.inl (List.mem_of_getElem? (i := 0) rfl))
    refine Go.step (st3) ?_
    show Go _ _ _ _ _ _ _ T3 (mkF m 24 #[.val (.ref a), .val (.int (Int32.ofNat n)), .val (.long ((1 : Int64) <<< ((Int32.ofNat n) &&& 0x3f).toInt64)), .second] [])
    refine Go.step (fun t k => XS.goto X3.here hx rfl (pc0 := 24) (pc' := 89) rfl (hb hby d5_24) (by decide) (by decide) k) ?_
    show Go _ _ _ _ _ _ _ T3 (mkF m 89 #[.val (.ref a), .val (.int (Int32.ofNat n)), .val (.long ((1 : Int64) <<< ((Int32.ofNat n) &&& 0x3f).toInt64)), .second] [])
    have f4 := (Exa.wr W3 E_a)
    have f5 := (Fld.other W3 F_1 (Or.inr (slot_ne (Or.inl (hw _ (List.mem_of_getElem? (i := 17) rfl))) (Or.inl (hw _ (List.mem_of_getElem? (i := 15) rfl))) (by decide) (t := .long) (t' := .long) (by decide) (by decide))))
    have f6 := (Fld.other W3 F_2 (Or.inr (slot_ne (Or.inl (hw _ (List.mem_of_getElem? (i := 19) rfl))) (Or.inl (hw _ (List.mem_of_getElem? (i := 15) rfl))) (by decide) (t := .long) (t' := .long) (by decide) (by decide))))
    have f7 := (Fld.other W3 F_3 (Or.inr (slot_ne (Or.inl (hw _ (List.mem_of_getElem? (i := 21) rfl))) (Or.inl (hw _ (List.mem_of_getElem? (i := 15) rfl))) (by decide) (t := .long) (t' := .long) (by decide) (by decide))))
    refine go_ret X3 hx hret hlk (hb hby d5_89) ?_ (by decide) (by decide)
    try rw [e3]
    exact ⟨rfl, N3, eI ▸ K3, f4, _, _, _, _, F3, f5, f6, f7, hB.del0 ((own_cl n 64 hn (by decide)).mp c7_1)⟩
  · refine Go.step (fun t k => XS.icmpYes X0.here hx rfl (pc0 := 7) (pc' := 27) rfl (hb hby d5_7) rfl (flt c7_1).2.1 (by decide) (by decide) k) ?_
    show Go _ _ _ _ _ _ _ T0 (mkF m 27 #[.val (.ref a), .val (.int (Int32.ofNat n)), .val (.long ((1 : Int64) <<< ((Int32.ofNat n) &&& 0x3f).toInt64)), .second] [])
    refine Go.step (fun t k => XS.iloadN X0.here hx rfl (hb hby d5_27) rfl k) ?_
    show Go _ _ _ _ _ _ _ T0 (mkF m 28 #[.val (.ref a), .val (.int (Int32.ofNat n)), .val (.long ((1 : Int64) <<< ((Int32.ofNat n) &&& 0x3f).toInt64)), .second] [(.int (Int32.ofNat n))])
    refine Go.step (fun t k => XS.sipush X0.here hx rfl (hb hby d5_28) k) ?_
    show Go _ _ _ _ _ _ _ T0 (mkF m 31 #[.val (.ref a), .val (.int (Int32.ofNat n)), .val (.long ((1 : Int64) <<< ((Int32.ofNat n) &&& 0x3f).toInt64)), .second] [(.int (128 : Int32)), (.int (Int32.ofNat n))])
    by_cases c31_8 : (Int32.ofNat n) < (128 : Int32)
    · refine Go.step (fun t k => XS.icmpNo X0.here hx rfl (hb hby d5_31) rfl (tlt c31_8).2.1 k) ?_
      show Go _ _ _ _ _ _ _ T0 (mkF m 34 #[.val (.ref a), .val (.int (Int32.ofNat n)), .val (.long ((1 : Int64) <<< ((Int32.ofNat n) &&& 0x3f).toInt64)), .second] [])
      refine Go.step (fun t k => XS.aloadN X0.here hx rfl (hb hby d5_34) rfl rfl k) ?_
      show Go _ _ _ _ _ _ _ T0 (mkF m 35 #[.val (.ref a), .val (.int (Int32.ofNat n)), .val (.long ((1 : Int64) <<< ((Int32.ofNat n) &&& 0x3f).toInt64)), .second] [(.ref a)])
      refine Go.step (fun t k => XS.dup X0.here hx rfl (hb hby d5_35) rfl rfl k) ?_
      show Go _ _ _ _ _ _ _ T0 (mkF m 36 #[.val (.ref a), .val (.int (Int32.ofNat n)), .val (.long ((1 : Int64) <<< ((Int32.ofNat n) &&& 0x3f).toInt64)), .second] [(.ref a), (.ref a)])
      obtain ⟨T9, X9, e9, st9⟩ := getF X0 hx hZ hown (host := "") (Or.inl (hw _ (List.mem_of_getElem? (i := 16) rfl))) Via.refl e0 F_1 (g := (mkF m 36 #[.val (.ref a), .val (.int (Int32.ofNat n)), .val (.long ((1 : Int64) <<< ((Int32.ofNat n) &&& 0x3f).toInt64)), .second] [(.ref a), (.ref a)])) rfl rfl (hb hby d5_36)
      refine Go.step (st9) ?_
      show Go _ _ _ _ _ _ _ T9 (mkF m 39 #[.val (.ref a), .val (.int (Int32.ofNat n)), .val (.long ((1 : Int64) <<< ((Int32.ofNat n) &&& 0x3f).toInt64)), .second] [(.long u1), (.ref a)])
      refine Go.step (fun t k => XS.lloadN X9.here hx rfl (hb hby d5_39) rfl k) ?_
      show Go _ _ _ _ _ _ _ T9 (mkF m 40 #[.val (.ref a), .val (.int (Int32.ofNat n)), .val (.long ((1 : Int64) <<< ((Int32.ofNat n) &&& 0x3f).toInt64)), .second] [(.long ((1 : Int64) <<< ((Int32.ofNat n) &&& 0x3f).toInt64)), (.long u1), (.ref a)])
      refine Go.step (X9.ldc2Long hx hown (mvT hZ (hw _ (List.mem_of_getElem? (i := 32) rfl))) (g := (mkF m 40 #[.val (.ref a), .val (.int (Int32.ofNat n)), .val (.long ((1 : Int64) <<< ((Int32.ofNat n) &&& 0x3f).toInt64)), .second] [(.long ((1 : Int64) <<< ((Int32.ofNat n) &&& 0x3f).toInt64)), (.long u1), (.ref a)])) rfl (hb hby d5_40)) ?_
      show Go _ _ _ _ _ _ _ T9 (mkF m 43 #[.val (.ref a), .val (.int (Int32.ofNat n)), .val (.long ((1 : Int64) <<< ((Int32.ofNat n) &&& 0x3f).toInt64)), .second] [(.long (-1 : Int64)), (.long ((1 : Int64) <<< ((Int32.ofNat n) &&& 0x3f).toInt64)), (.long u1), (.ref a)])
      refine Go.step (fun t k => XS.lxor X9.here hx rfl (hb hby d5_43) rfl k) ?_
      show Go _ _ _ _ _ _ _ T9 (mkF m 44 #[.val (.ref a), .val (.int (Int32.ofNat n)), .val (.long ((1 : Int64) <<< ((Int32.ofNat n) &&& 0x3f).toInt64)), .second] [(.long (((1 : Int64) <<< ((Int32.ofNat n) &&& 0x3f).toInt64) ^^^ (-1 : Int64))), (.long u1), (.ref a)])
      refine Go.step (fun t k => XS.land X9.here hx rfl (hb hby d5_44) rfl k) ?_
      show Go _ _ _ _ _ _ _ T9 (mkF m 45 #[.val (.ref a), .val (.int (Int32.ofNat n)), .val (.long ((1 : Int64) <<< ((Int32.ofNat n) &&& 0x3f).toInt64)), .second] [(.long (u1 &&& (((1 : Int64) <<< ((Int32.ofNat n) &&& 0x3f).toInt64) ^^^ (-1 : Int64)))), (.ref a)])
      obtain ⟨T10, h10, X10, e10, W10, st10⟩ := putF X9 hx hZ hown (host := "") (Or.inl (hw _ (List.mem_of_getElem? (i := 16) rfl))) Via.refl e9 F_1 E_a (Or.inl (hw _ (List.mem_of_getElem? (i := 17) rfl))) (hw _ (List.mem_of_getElem? (i := 1) rfl)) (ty := .long) (by decide) rfl rfl (g := (mkF m 45 #[.val (.ref a), .val (.int (Int32.ofNat n)), .val (.long ((1 : Int64) <<< ((Int32.ofNat n) &&& 0x3f).toInt64)), .second] [(.long (u1 &&& (((1 : Int64) <<< ((Int32.ofNat n) &&& 0x3f).toInt64) ^^^ (-1 : Int64)))), (.ref a)])) rfl rfl (hb hby d5_45)
      have F10 := Fld.same W10 F_1
      have N10 := Fr.snoc X10 N0 g_a
      have Z10 : n0 ≤ h10.size := Nat.le_trans Z0 (Keep.of_wr W10).1
      have K10 : Keep hI h10 [a] := K0.wr W10 (Or.inl (List.mem_of_getElem? (i := 0) rfl))
      refine Go.step (st10) ?_
      show Go _ _ _ _ _ _ _ T10 (mkF m 48 #[.val (.ref a), .val (.int (Int32.ofNat n)), .val (.long ((1 : Int64) <<< ((Int32.ofNat n) &&& 0x3f).toInt64)), .second] [])
      refine Go.step (fun t k => XS.goto X10.here hx rfl (pc0 := 48) (pc' := 89) rfl (hb hby d5_48) (by decide) (by decide) k) ?_
      show Go _ _ _ _ _ _ _ T10 (mkF m 89 #[.val (.ref a), .val (.int (Int32.ofNat n)), .val (.long ((1 : Int64) <<< ((Int32.ofNat n) &&& 0x3f).toInt64)), .second] [])
      have f11 := (Exa.wr W10 E_a)
      have f12 := (Fld.other W10 F_0 (Or.inr (slot_ne (Or.inl (hw _ (List.mem_of_getElem? (i := 15) rfl))) (Or.inl (hw _ (List.mem_of_getElem? (i := 17) rfl))) (by decide) (t := .long) (t' := .long) (by decide) (by decide))))
      have f13 := (Fld.other W10 F_2 (Or.inr (slot_ne (Or.inl (hw _ (List.mem_of_getElem? (i := 19) rfl))) (Or.inl (hw _ (List.mem_of_getElem? (i := 17) rfl))) (by decide) (t := .long) (t' := .long) (by decide) (by decide))))
      have f14 := (Fld.other W10 F_3 (Or.inr (slot_ne (Or.inl (hw _ (List.mem_of_getElem? (i := 21) rfl))) (Or.inl (hw _ (List.mem_of_getElem? (i := 17) rfl))) (by decide) (t := .long) (t' := .long) (by decide) (by decide))))
      refine go_ret X10 hx hret hlk (hb hby d5_89) ?_ (by decide) (by decide)
      try rw [e10]
      exact ⟨rfl, N10, eI ▸ K10, f11, _, _, _, _, f12, F10, f13, f14, hB.del1 (mt (own_cl n 64 hn (by decide)).mpr c7_1) ((own_cl n 128 hn (by decide)).mp c31_8)⟩
    · refine Go.step (fun t k => XS.icmpYes X0.here hx rfl (pc0 := 31) (pc' := 51) rfl (hb hby d5_31) rfl (flt c31_8).2.1 (by decide) (by decide) k) ?_
      show Go _ _ _ _ _ _ _ T0 (mkF m 51 #[.val (.ref a), .val (.int (Int32.ofNat n)), .val (.long ((1 : Int64) <<< ((Int32.ofNat n) &&& 0x3f).toInt64)), .second] [])
      refine Go.step (fun t k => XS.iloadN X0.here hx rfl (hb hby d5_51) rfl k) ?_
      show Go _ _ _ _ _ _ _ T0 (mkF m 52 #[.val (.ref a), .val (.int (Int32.ofNat n)), .val (.long ((1 : Int64) <<< ((Int32.ofNat n) &&& 0x3f).toInt64)), .second] [(.int (Int32.ofNat n))])
      refine Go.step (fun t k => XS.sipush X0.here hx rfl (hb hby d5_52) k) ?_
      show Go _ _ _ _ _ _ _ T0 (mkF m 55 #[.val (.ref a), .val (.int (Int32.ofNat n)), .val (.long ((1 : Int64) <<< ((Int32.ofNat n) &&& 0x3f).toInt64)), .second] [(.int (192 : Int32)), (.int (Int32.ofNat n))])
      by_cases c55_15 : (Int32.ofNat n) < (192 : Int32)
      · refine Go.step (fun t k => XS.icmpNo X0.here hx rfl (hb hby d5_55) rfl (tlt c55_15).2.1 k) ?_
        show Go _ _ _ _ _ _ _ T0 (mkF m 58 #[.val (.ref a), .val (.int (Int32.ofNat n)), .val (.long ((1 : Int64) <<< ((Int32.ofNat n) &&& 0x3f).toInt64)), .second] [])
        refine Go.step (fun t k => XS.aloadN X0.here hx rfl (hb hby d5_58) rfl rfl k) ?_
        show Go _ _ _ _ _ _ _ T0 (mkF m 59 #[.val (.ref a), .val (.int (Int32.ofNat n)), .val (.long ((1 : Int64) <<< ((Int32.ofNat n) &&& 0x3f).toInt64)), .second] [(.ref a)])
        refine Go.step (fun t k => XS.dup X0.here hx rfl (hb hby d5_59) rfl rfl k) ?_
        show Go _ _ _ _ _ _ _ T0 (mkF m 60 #[.val (.ref a), .val (.int (Int32.ofNat n)), .val (.long ((1 : Int64) <<< ((Int32.ofNat n) &&& 0x3f).toInt64)), .second] [(.ref a), (.ref a)])
        obtain ⟨T16, X16, e16, st16⟩ := getF X0 hx hZ hown (host := "") (Or.inl (hw _ (List.mem_of_getElem? (i := 18) rfl))) Via.refl e0 F_2 (g := (mkF m 60 #[.val (.ref a), .val (.int (Int32.ofNat n)), .val (.long ((1 : Int64) <<< ((Int32.ofNat n) &&& 0x3f).toInt64)), .second] [(.ref a), (.ref a)])) rfl rfl (hb hby d5_60)
        refine Go.step (st16) ?_
        show Go _ _ _ _ _ _ _ T16 (mkF m 63 #[.val (.ref a), .val (.int (Int32.ofNat n)), .val (.long ((1 : Int64) <<< ((Int32.ofNat n) &&& 0x3f).toInt64)), .second] [(.long u2), (.ref a)])
        refine Go.step (fun t k => XS.lloadN X16.here hx rfl (hb hby d5_63) rfl k) ?_
        show Go _ _ _ _ _ _ _ T16 (mkF m 64 #[.val (.ref a), .val (.int (Int32.ofNat n)), .val (.long ((1 : Int64) <<< ((Int32.ofNat n) &&& 0x3f).toInt64)), .second] [(.long ((1 : Int64) <<< ((Int32.ofNat n) &&& 0x3f).toInt64)), (.long u2), (.ref a)])
        refine Go.step (X16.ldc2Long hx hown (mvT hZ (hw _ (List.mem_of_getElem? (i := 32) rfl))) (g := (mkF m 64 #[.val (.ref a), .val (.int (Int32.ofNat n)), .val (.long ((1 : Int64) <<< ((Int32.ofNat n) &&& 0x3f).toInt64)), .second] [(.long ((1 : Int64) <<< ((Int32.ofNat n) &&& 0x3f).toInt64)), (.long u2), (.ref a)])) rfl (hb hby d5_64)) ?_
        show Go _ _ _ _ _ _ _ T16 (mkF m 67 #[.val (.ref a), .val (.int (Int32.ofNat n)), .val (.long ((1 : Int64) <<< ((Int32.ofNat n) &&& 0x3f).toInt64)), .second] [(.long (-1 : Int64)), (.long ((1 : Int64) <<< ((Int32.ofNat n) &&& 0x3f).toInt64)), (.long u2), (.ref a)])
        refine Go.step (fun t k => XS.lxor X16.here hx rfl (hb hby d5_67) rfl k) ?_
        show Go _ _ _ _ _ _ _ T16 (mkF m 68 #[.val (.ref a), .val (.int (Int32.ofNat n)), .val (.long ((1 : Int64) <<< ((Int32.ofNat n) &&& 0x3f).toInt64)), .second] [(.long (((1 : Int64) <<< ((Int32.ofNat n) &&& 0x3f).toInt64) ^^^ (-1 : Int64))), (.long u2), (.ref a)])
        refine Go.step (fun t k => XS.land X16.here hx rfl (hb hby d5_68) rfl k) ?_
        show Go _ _ _ _ _ _ _ T16 (mkF m 69 #[.val (.ref a), .val (.int (Int32.ofNat n)), .val (.long ((1 : Int64) <<< ((Int32.ofNat n) &&& 0x3f).toInt64)), .second] [(.long (u2 &&& (((1 : Int64) <<< ((Int32.ofNat n) &&& 0x3f).toInt64) ^^^ (-1 : Int64)))), (.ref a)])
        obtain ⟨T17, h17, X17, e17, W17, st17⟩ := putF X16 hx hZ hown (host := "") (Or.inl (hw _ (List.mem_of_getElem? (i := 18) rfl))) Via.refl e16 F_2 E_a (Or.inl (hw _ (List.mem_of_getElem? (i := 19) rfl))) (hw _ (List.mem_of_getElem? (i := 1) rfl)) (ty := .long) (by decide) rfl rfl (g := (mkF m 69 #[.val (.ref a), .val (.int (Int32.ofNat n)), .val (.long ((1 : Int64) <<< ((Int32.ofNat n) &&& 0x3f).toInt64)), .second] [(.long (u2 &&& (((1 : Int64) <<< ((Int32.ofNat n) &&& 0x3f).toInt64) ^^^ (-1 : Int64)))), (.ref a)])) rfl rfl (hb hby d5_69)
        have F17 := Fld.same W17 F_2
        have N17 := Fr.snoc X17 N0 g_a
        have Z17 : n0 ≤ h17.size := Nat.le_trans Z0 (Keep.of_wr W17).1
        have K17 : Keep hI h17 [a] := K0.wr W17 (Or.inl (List.mem_of_getElem? (i := 0) rfl))
        refine Go.step (st17) ?_
        show Go _ _ _ _ _ _ _ T17 (mkF m 72 #[.val (.ref a), .val (.int (Int32.ofNat n)), .val (.long ((1 : Int64) <<< ((Int32.ofNat n) &&& 0x3f).toInt64)), .second] [])
        refine Go.step (fun t k => XS.goto X17.here hx rfl (pc0 := 72) (pc' := 89) rfl (hb hby d5_72) (by decide) (by decide) k) ?_
        show Go _ _ _ _ _ _ _ T17 (mkF m 89 #[.val (.ref a), .val (.int (Int32.ofNat n)), .val (.long ((1 : Int64) <<< ((Int32.ofNat n) &&& 0x3f).toInt64)), .second] [])
        have f18 := (Exa.wr W17 E_a)
        have f19 := (Fld.other W17 F_0 (Or.inr (slot_ne (Or.inl (hw _ (List.mem_of_getElem? (i := 15) rfl))) (Or.inl (hw _ (List.mem_of_getElem? (i := 19) rfl))) (by decide) (t := .long) (t' := .long) (by decide) (by decide))))
        have f20 := (Fld.other W17 F_1 (Or.inr (slot_ne (Or.inl (hw _ (List.mem_of_getElem? (i := 17) rfl))) (Or.inl (hw _ (List.mem_of_getElem? (i := 19) rfl))) (by decide) (t := .long) (t' := .long) (by decide) (by decide))))
        have f21 := (Fld.other W17 F_3 (Or.inr (slot_ne (Or.inl (hw _ (List.mem_of_getElem? (i := 21) rfl))) (Or.inl (hw _ (List.mem_of_getElem? (i := 19) rfl))) (by decide) (t := .long) (t' := .long) (by decide) (by decide))))
        refine go_ret X17 hx hret hlk (hb hby d5_89) ?_ (by decide) (by decide)
        try rw [e17]
        exact ⟨rfl, N17, eI ▸ K17, f18, _, _, _, _, f19, f20, F17, f21, hB.del2 (mt (own_cl n 128 hn (by decide)).mpr c31_8) ((own_cl n 192 hn (by decide)).mp c55_15)⟩
      · refine Go.step (fun t k => XS.icmpYes X0.here hx rfl (pc0 := 55) (pc' := 75) rfl (hb hby d5_55) rfl (flt c55_15).2.1 (by decide) (by decide) k) ?_
        show Go _ _ _ _ _ _ _ T0 (mkF m 75 #[.val (.ref a), .val (.int (Int32.ofNat n)), .val (.long ((1 : Int64) <<< ((Int32.ofNat n) &&& 0x3f).toInt64)), .second] [])
        refine Go.step (fun t k => XS.aloadN X0.here hx rfl (hb hby d5_75) rfl rfl k) ?_
        show Go _ _ _ _ _ _ _ T0 (mkF m 76 #[.val (.ref a), .val (.int (Int32.ofNat n)), .val (.long ((1 : Int64) <<< ((Int32.ofNat n) &&& 0x3f).toInt64)), .second] [(.ref a)])
        refine Go.step (fun t k => XS.dup X0.here hx rfl (hb hby d5_76) rfl rfl k) ?_
        show Go _ _ _ _ _ _ _ T0 (mkF m 77 #[.val (.ref a), .val (.int (Int32.ofNat n)), .val (.long ((1 : Int64) <<< ((Int32.ofNat n) &&& 0x3f).toInt64)), .second] [(.ref a), (.ref a)])
        obtain ⟨T22, X22, e22, st22⟩ := getF X0 hx hZ hown (host := "") (Or.inl (hw _ (List.mem_of_getElem? (i := 20) rfl))) Via.refl e0 F_3 (g := (mkF m 77 #[.val (.ref a), .val (.int (Int32.ofNat n)), .val (.long ((1 : Int64) <<< ((Int32.ofNat n) &&& 0x3f).toInt64)), .second] [(.ref a), (.ref a)])) rfl rfl (hb hby d5_77)
        refine Go.step (st22) ?_
        show Go _ _ _ _ _ _ _ T22 (mkF m 80 #[.val (.ref a), .val (.int (Int32.ofNat n)), .val (.long ((1 : Int64) <<< ((Int32.ofNat n) &&& 0x3f).toInt64)), .second] [(.long u3), (.ref a)])
        refine Go.step (fun t k => XS.lloadN X22.here hx rfl (hb hby d5_80) rfl k) ?_
        show Go _ _ _ _ _ _ _ T22 (mkF m 81 #[.val (.ref a), .val (.int (Int32.ofNat n)), .val (.long ((1 : Int64) <<< ((Int32.ofNat n) &&& 0x3f).toInt64)), .second] [(.long ((1 : Int64) <<< ((Int32.ofNat n) &&& 0x3f).toInt64)), (.long u3), (.ref a)])
        refine Go.step (X22.ldc2Long hx hown (mvT hZ (hw _ (List.mem_of_getElem? (i := 32) rfl))) (g := (mkF m 81 #[.val (.ref a), .val (.int (Int32.ofNat n)), .val (.long ((1 : Int64) <<< ((Int32.ofNat n) &&& 0x3f).toInt64)), .second] [(.long ((1 : Int64) <<< ((Int32.ofNat n) &&& 0x3f).toInt64)), (.long u3), (.ref a)])) rfl (hb hby d5_81)) ?_
        show Go _ _ _ _ _ _ _ T22 (mkF m 84 #[.val (.ref a), .val (.int (Int32.ofNat n)), .val (.long ((1 : Int64) <<< ((Int32.ofNat n) &&& 0x3f).toInt64)), .second] [(.long (-1 : Int64)), (.long ((1 : Int64) <<< ((Int32.ofNat n) &&& 0x3f).toInt64)), (.long u3), (.ref a)])
        refine Go.step (fun t k => XS.lxor X22.here hx rfl (hb hby d5_84) rfl k) ?_
        show Go _ _ _ _ _ _ _ T22 (mkF m 85 #[.val (.ref a), .val (.int (Int32.ofNat n)), .val (.long ((1 : Int64) <<< ((Int32.ofNat n) &&& 0x3f).toInt64)), .second] [(.long (((1 : Int64) <<< ((Int32.ofNat n) &&& 0x3f).toInt64) ^^^ (-1 : Int64))), (.long u3), (.ref a)])
        refine Go.step (fun t k => XS.land X22.here hx rfl (hb hby d5_85) rfl k) ?_
        show Go _ _ _ _ _ _ _ T22 (mkF m 86 #[.val (.ref a), .val (.int (Int32.ofNat n)), .val (.long ((1 : Int64) <<< ((Int32.ofNat n) &&& 0x3f).toInt64)), .second] [(.long (u3 &&& (((1 : Int64) <<< ((Int32.ofNat n) &&& 0x3f).toInt64) ^^^ (-1 : Int64)))), (.ref a)])
        obtain ⟨T23, h23, X23, e23, W23, st23⟩ := putF X22 hx hZ hown (host := "") (Or.inl (hw _ (List.mem_of_getElem? (i := 20) rfl))) Via.refl e22 F_3 E_a (Or.inl (hw _ (List.mem_of_getElem? (i := 21) rfl))) (hw _ (List.mem_of_getElem? (i := 1) rfl)) (ty := .long) (by decide) rfl rfl (g := (mkF m 86 #[.val (.ref a), .val (.int (Int32.ofNat n)), .val (.long ((1 : Int64) <<< ((Int32.ofNat n) &&& 0x3f).toInt64)), .second] [(.long (u3 &&& (((1 : Int64) <<< ((Int32.ofNat n) &&& 0x3f).toInt64) ^^^ (-1 : Int64)))), (.ref a)])) rfl rfl (hb hby d5_86)
        have F23 := Fld.same W23 F_3
        have N23 := Fr.snoc X23 N0 g_a
        have Z23 : n0 ≤ h23.size := Nat.le_trans Z0 (Keep.of_wr W23).1
        have K23 : Keep hI h23 [a] := K0.wr W23 (Or.inl (List.mem_of_getElem? (i := 0) rfl))
        refine Go.step (st23) ?_
        show Go _ _ _ _ _ _ _ T23 (mkF m 89 #[.val (.ref a), .val (.int (Int32.ofNat n)), .val (.long ((1 : Int64) <<< ((Int32.ofNat n) &&& 0x3f).toInt64)), .second] [])
        have f24 := (Exa.wr W23 E_a)
        have f25 := (Fld.other W23 F_0 (Or.inr (slot_ne (Or.inl (hw _ (List.mem_of_getElem? (i := 15) rfl))) (Or.inl (hw _ (List.mem_of_getElem? (i := 21) rfl))) (by decide) (t := .long) (t' := .long) (by decide) (by decide))))
        have f26 := (Fld.other W23 F_1 (Or.inr (slot_ne (Or.inl (hw _ (List.mem_of_getElem? (i := 17) rfl))) (Or.inl (hw _ (List.mem_of_getElem? (i := 21) rfl))) (by decide) (t := .long) (t' := .long) (by decide) (by decide))))
        have f27 := (Fld.other W23 F_2 (Or.inr (slot_ne (Or.inl (hw _ (List.mem_of_getElem? (i := 19) rfl))) (Or.inl (hw _ (List.mem_of_getElem? (i := 21) rfl))) (by decide) (t := .long) (t' := .long) (by decide) (by decide))))
        refine go_ret X23 hx hret hlk (hb hby d5_89) ?_ (by decide) (by decide)
        try rw [e23]
        exact ⟨rfl, N23, eI ▸ K23, f24, _, _, _, _, f25, f26, f27, F23, hB.del3 (mt (own_cl n 192 hn (by decide)).mpr c55_15) hn⟩
theorem ef_rmE (m : MethodId) (x0 : Addr) : entryFrame m #[(.ref x0)] 1 = mkF m 0 #[.val (.ref x0)] [] := by first | (simp [entryFrame, mkF, argsToLocals, Value.category]; done) | rfl
theorem d3_0 : decode prog_67_method_6_code 0 = .ok (.aload_n 0, 1) := by decide +kernel
theorem d3_1 : decode prog_67_method_6_code 1 = .ok (.getfield 13, 3) := by decide +kernel
theorem d3_4 : decode prog_67_method_6_code 4 = .ok (.aload_n 0, 1) := by decide +kernel
theorem d3_5 : decode prog_67_method_6_code 5 = .ok (.getfield 17, 3) := by decide +kernel
theorem d3_8 : decode prog_67_method_6_code 8 = .ok (.lor, 1) := by decide +kernel
theorem d3_9 : decode prog_67_method_6_code 9 = .ok (.aload_n 0, 1) := by decide +kernel
theorem d3_10 : decode prog_67_method_6_code 10 = .ok (.getfield 20, 3) := by decide +kernel
theorem d3_13 : decode prog_67_method_6_code 13 = .ok (.lor, 1) := by decide +kernel
theorem d3_14 : decode prog_67_method_6_code 14 = .ok (.aload_n 0, 1) := by decide +kernel
theorem d3_15 : decode prog_67_method_6_code 15 = .ok (.getfield 23, 3) := by decide +kernel
theorem d3_18 : decode prog_67_method_6_code 18 = .ok (.lor, 1) := by decide +kernel
theorem d3_19 : decode prog_67_method_6_code 19 = .ok (.lconst 0, 1) := by decide +kernel
theorem d3_20 : decode prog_67_method_6_code 20 = .ok (.lcmp, 1) := by decide +kernel
theorem d3_21 : decode prog_67_method_6_code 21 = .ok (.ifCond .ne 7, 3) := by decide +kernel
theorem d3_24 : decode prog_67_method_6_code 24 = .ok (.iconst 1, 1) := by decide +kernel
theorem d3_25 : decode prog_67_method_6_code 25 = .ok (.goto 4, 3) := by decide +kernel
theorem d3_29 : decode prog_67_method_6_code 29 = .ok (.ireturn, 1) := by decide +kernel
theorem d3_28 : decode prog_67_method_6_code 28 = .ok (.iconst 0, 1) := by decide +kernel
set_option maxRecDepth 65536 in
set_option maxHeartbeats 40000000 in
theorem rmE (l : Launch) (Z : State) (a0 : Array Value) (hw : ∀ d ∈ tables_1, d.before a0 Z = true) (ws : List Jvm.Cond) (a : Addr) (n : Nat) (u0 u1 u2 u3 : Int64) (S : Nat → Bool) (h0 : Heap) (n0 : Nat) (Z0 : n0 ≤ h0.size) (hn : n < 256) (hB : Bits S u0 u1 u2 u3) (E_a : Exa Z h0 a "com/example/touchtree/touchtree/node/PointerSet") (F_0 : Fld Z h0 a "com/example/touchtree/touchtree/node/PointerSet" "bits0" "J" (.long u0)) (F_1 : Fld Z h0 a "com/example/touchtree/touchtree/node/PointerSet" "bits1" "J" (.long u1)) (F_2 : Fld Z h0 a "com/example/touchtree/touchtree/node/PointerSet" "bits2" "J" (.long u2)) (F_3 : Fld Z h0 a "com/example/touchtree/touchtree/node/PointerSet" "bits3" "J" (.long u3)) :
    Ctr l Z (⟨"com/example/touchtree/touchtree/node/PointerSet", "isEmpty", "()Z"⟩ : MethodName) prog_67_method_6_code 1 (some .boolean) ws ({ frames := 0, cells := 0, slots := 0, locals := 0 } : Room) 0 0 #[(.ref a)] h0 (fun v h L => v = some (.int (bi (Emp S))) ∧ L = [] ∧ h = h0) := by
  refine Ctr.mk (plainFor_of_name pn_0) fun p e s m below meth c T0 X0 C e0 => go_cast (ef_rmE m a) ?_
  have N0 := Fr.nil n0
  obtain ⟨hx, hZ, hby, hml, hown, hnm, hret, hlk⟩ := C
  show Go _ _ _ _ _ _ _ T0 (mkF m 0 #[.val (.ref a)] [])
  refine Go.step (fun t k => XS.aloadN X0.here hx rfl (hb hby d3_0) rfl rfl k) ?_
  show Go _ _ _ _ _ _ _ T0 (mkF m 1 #[.val (.ref a)] [(.ref a)])
  obtain ⟨T1, X1, e1, st1⟩ := getF X0 hx hZ hown (host := "") (Or.inl (hw _ (List.mem_of_getElem? (i := 14) rfl))) Via.refl e0 F_0 (g := (mkF m 1 #[.val (.ref a)] [(.ref a)])) rfl rfl (hb hby d3_1)
  refine Go.step (st1) ?_
  show Go _ _ _ _ _ _ _ T1 (mkF m 4 #[.val (.ref a)] [(.long u0)])
  refine Go.step (fun t k => XS.aloadN X1.here hx rfl (hb hby d3_4) rfl rfl k) ?_
  show Go _ _ _ _ _ _ _ T1 (mkF m 5 #[.val (.ref a)] [(.ref a), (.long u0)])
  obtain ⟨T2, X2, e2, st2⟩ := getF X1 hx hZ hown (host := "") (Or.inl (hw _ (List.mem_of_getElem? (i := 16) rfl))) Via.refl e1 F_1 (g := (mkF m 5 #[.val (.ref a)] [(.ref a), (.long u0)])) rfl rfl (hb hby d3_5)
  refine Go.step (st2) ?_
  show Go _ _ _ _ _ _ _ T2 (mkF m 8 #[.val (.ref a)] [(.long u1), (.long u0)])
  refine Go.step (fun t k => XS.lor X2.here hx rfl (hb hby d3_8) rfl k) ?_
  show Go _ _ _ _ _ _ _ T2 (mkF m 9 #[.val (.ref a)] [(.long (u0 ||| u1))])
  refine Go.step (fun t k => XS.aloadN X2.here hx rfl (hb hby d3_9) rfl rfl k) ?_
  show Go _ _ _ _ _ _ _ T2 (mkF m 10 #[.val (.ref a)] [(.ref a), (.long (u0 ||| u1))])
  obtain ⟨T3, X3, e3, st3⟩ := getF X2 hx hZ hown (host := "") (Or.inl (hw _ (List.mem_of_getElem? (i := 18) rfl))) Via.refl e2 F_2 (g := (mkF m 10 #[.val (.ref a)] [(.ref a), (.long (u0 ||| u1))])) rfl rfl (hb hby d3_10)
  refine Go.step (st3) ?_
  show Go _ _ _ _ _ _ _ T3 (mkF m 13 #[.val (.ref a)] [(.long u2), (.long (u0 ||| u1))])
  refine Go.step (fun t k => XS.lor X3.here hx rfl (hb hby d3_13) rfl k) ?_
  show Go _ _ _ _ _ _ _ T3 (mkF m 14 #[.val (.ref a)] [(.long ((u0 ||| u1) ||| u2))])
  refine Go.step (fun t k => XS.aloadN X3.here hx rfl (hb hby d3_14) rfl rfl k) ?_
  show Go _ _ _ _ _ _ _ T3 (mkF m 15 #[.val (.ref a)] [(.ref a), (.long ((u0 ||| u1) ||| u2))])
  obtain ⟨T4, X4, e4, st4⟩ := getF X3 hx hZ hown (host := "") (Or.inl (hw _ (List.mem_of_getElem? (i := 20) rfl))) Via.refl e3 F_3 (g := (mkF m 15 #[.val (.ref a)] [(.ref a), (.long ((u0 ||| u1) ||| u2))])) rfl rfl (hb hby d3_15)
  refine Go.step (st4) ?_
  show Go _ _ _ _ _ _ _ T4 (mkF m 18 #[.val (.ref a)] [(.long u3), (.long ((u0 ||| u1) ||| u2))])
  refine Go.step (fun t k => XS.lor X4.here hx rfl (hb hby d3_18) rfl k) ?_
  show Go _ _ _ _ _ _ _ T4 (mkF m 19 #[.val (.ref a)] [(.long (((u0 ||| u1) ||| u2) ||| u3))])
  refine Go.step (fun t k => XS.lconst X4.here hx rfl (hb hby d3_19) k) ?_
  show Go _ _ _ _ _ _ _ T4 (mkF m 20 #[.val (.ref a)] [(.long (0 : Int64)), (.long (((u0 ||| u1) ||| u2) ||| u3))])
  refine Go.step (fun t k => XS.lcmp X4.here hx rfl (hb hby d3_20) rfl k) ?_
  show Go _ _ _ _ _ _ _ T4 (mkF m 21 #[.val (.ref a)] [(.int (lcmpW (((u0 ||| u1) ||| u2) ||| u3) (0 : Int64)))])
  by_cases c21_5 : (((u0 ||| u1) ||| u2) ||| u3) = (0 : Int64)
  · refine Go.step (fun t k => XS.ifNo X4.here hx rfl (hb hby d3_21) rfl ((if0 _ _).trans (teq ((lw_eq _ _).mpr c21_5)).2) k) ?_
    show Go _ _ _ _ _ _ _ T4 (mkF m 24 #[.val (.ref a)] [])
    refine Go.step (fun t k => XS.iconst X4.here hx rfl (hb hby d3_24) k) ?_
    show Go _ _ _ _ _ _ _ T4 (mkF m 25 #[.val (.ref a)] [(.int (1 : Int32))])
    refine Go.step (fun t k => XS.goto X4.here hx rfl (pc0 := 25) (pc' := 29) rfl (hb hby d3_25) (by decide) (by decide) k) ?_
    show Go _ _ _ _ _ _ _ T4 (mkF m 29 #[.val (.ref a)] [(.int (1 : Int32))])
    refine go_retN X4 hx (t := .boolean) hret (by simp) hlk (hb hby d3_29) (w := (1 : Int32)) rfl ?_ (by decide) (by decide)
    try rw [e4]
    exact ⟨congrArg (fun z => some (Value.int z)) (bi_t (hB.emp.mp c21_5)).symm, rfl, rfl⟩
  · refine Go.step (fun t k => XS.ifYes X4.here hx rfl (pc0 := 21) (pc' := 28) rfl (hb hby d3_21) rfl ((if0 _ _).trans (feq (fun q => c21_5 ((lw_eq _ _).mp q))).2) (by decide) (by decide) k) ?_
    show Go _ _ _ _ _ _ _ T4 (mkF m 28 #[.val (.ref a)] [])
    refine Go.step (fun t k => XS.iconst X4.here hx rfl (hb hby d3_28) k) ?_
    show Go _ _ _ _ _ _ _ T4 (mkF m 29 #[.val (.ref a)] [(.int (0 : Int32))])
    refine go_retN X4 hx (t := .boolean) hret (by simp) hlk (hb hby d3_29) (w := (0 : Int32)) rfl ?_ (by decide) (by decide)
    try rw [e4]
    exact ⟨congrArg (fun z => some (Value.int z)) (bi_f (mt hB.emp.mpr c21_5)).symm, rfl, rfl⟩
theorem Bits.congr {S S' : Nat → Bool} {u0 u1 u2 u3 : Int64} (B : Bits S u0 u1 u2 u3) (h : ∀ i, S i = S' i) : Bits S' u0 u1 u2 u3 := by
  have e : S = S' := funext h
  exact e ▸ B
theorem own_e (qa qb qc qd : Bool) (na nb nc ng : Nat) (ha : na < 256) (hb : nb < 256) (hc : nc < 256) : Emp (fun i => (((qa && decide (i = na)) || (qb && decide (i = nb))) || (qc && decide (i = nc))) && !(qd && decide (i = ng))) ↔
    (¬ (qa = true ∧ (¬ (qd = true) ∨ ¬ (na = ng))) ∧ ¬ (qb = true ∧ (¬ (qd = true) ∨ ¬ (nb = ng))) ∧ ¬ (qc = true ∧ (¬ (qd = true) ∨ ¬ (nc = ng)))) := by
  have key : ∀ i, ((((qa && decide (i = na)) || (qb && decide (i = nb))) || (qc && decide (i = nc))) && !(qd && decide (i = ng))) = false ↔ ¬ (((qa = true ∧ i = na) ∨ (qb = true ∧ i = nb) ∨ (qc = true ∧ i = nc)) ∧ (¬ (qd = true) ∨ ¬ (i = ng))) := by
    intro i
    by_cases e1 : i = na <;> by_cases e2 : i = nb <;> by_cases e3 : i = nc <;> by_cases e4 : i = ng <;> cases qa <;> cases qb <;> cases qc <;> cases qd <;> simp [e1, e2, e3, e4] <;> simp_all
  constructor
  · intro h
    refine ⟨fun q => (key na).mp (h na ha) ⟨Or.inl ⟨q.1, rfl⟩, q.2⟩, fun q => (key nb).mp (h nb hb) ⟨Or.inr (Or.inl ⟨q.1, rfl⟩), q.2⟩, fun q => (key nc).mp (h nc hc) ⟨Or.inr (Or.inr ⟨q.1, rfl⟩), q.2⟩⟩
  · rintro ⟨h1, h2, h3⟩ i hi
    refine (key i).mpr ?_
    rintro ⟨⟨p, rfl⟩ | ⟨p, rfl⟩ | ⟨p, rfl⟩, r⟩
    · exact h1 ⟨p, r⟩
    · exact h2 ⟨p, r⟩
    · exact h3 ⟨p, r⟩
theorem ef_rm0 (m : MethodId) (x0 : Int32) (x1 : Int32) (x2 : Int32) (x3 : Int32) (x4 : Int32) : entryFrame m #[(.int x0), (.int x1), (.int x2), (.int x3), (.int x4)] maxLocals = mkF m 0 #[.val (.int x0), .val (.int x1), .val (.int x2), .val (.int x3), .val (.int x4), .unset, .unset, .unset, .unset, .unset, .unset, .unset, .unset, .unset, .unset, .unset, .unset, .unset, .unset] [] := by first | (simp [entryFrame, mkF, argsToLocals, Value.category, maxLocals]; done) | rfl
theorem pn_1 : plainName "com/example/touchtree/touchtree/node/PointerSetIsEmptyPinLaw" = true := by first | (simp [plainName, overriddenIn]; done) | decide +kernel
theorem pd_0 : parseMethodDescriptor "()V" = some ⟨[], none⟩ := by decide +kernel
theorem pd_1 : parseMethodDescriptor "()Z" = some ⟨[], some .boolean⟩ := by decide +kernel
theorem pd_2 : parseMethodDescriptor "(I)V" = some ⟨[.int], none⟩ := by decide +kernel
set_option maxRecDepth 65536 in
set_option maxHeartbeats 40000000 in
theorem rm0 (l : Launch) (Z : State) (a0 : Array Value) (hw : ∀ d ∈ tables_1, d.before a0 Z = true) (ws : List Jvm.Cond) (i0 i1 i2 i3 i4 : Int32) (h0 : Heap) (n0 : Nat) (Z0 : n0 ≤ h0.size)  :
    Ctr l Z x code maxLocals ret ws room_1 16 128 #[(.int i0), (.int i1), (.int i2), (.int i3), (.int i4)] h0 (fun v h L => v = some (.int (1 : Int32)) ∧ Fr n0 L) := by
  refine Ctr.mk (plainFor_of_name pn_1) fun p e s m below meth c T0 X0 C e0 => go_cast (ef_rm0 m i0 i1 i2 i3 i4) ?_
  have N0 := Fr.nil n0
  obtain ⟨hx, hZ, hby, hml, hown, hnm, hret, hlk⟩ := C
  show Go _ _ _ _ _ _ _ T0 (mkF m 0 #[.val (.int i0), .val (.int i1), .val (.int i2), .val (.int i3), .val (.int i4), .unset, .unset, .unset, .unset, .unset, .unset, .unset, .unset, .unset, .unset, .unset, .unset, .unset, .unset] [])
  refine Go.step (fun t k => XS.iloadN X0.here hx rfl (hb hby at_0) rfl k) ?_
  show Go _ _ _ _ _ _ _ T0 (mkF m 1 #[.val (.int i0), .val (.int i1), .val (.int i2), .val (.int i3), .val (.int i4), .unset, .unset, .unset, .unset, .unset, .unset, .unset, .unset, .unset, .unset, .unset, .unset, .unset, .unset] [(.int i0)])
  refine Go.step (fun t k => XS.sipush X0.here hx rfl (hb hby at_1) k) ?_
  show Go _ _ _ _ _ _ _ T0 (mkF m 4 #[.val (.int i0), .val (.int i1), .val (.int i2), .val (.int i3), .val (.int i4), .unset, .unset, .unset, .unset, .unset, .unset, .unset, .unset, .unset, .unset, .unset, .unset, .unset, .unset] [(.int (255 : Int32)), (.int i0)])
  refine Go.step (fun t k => XS.iand X0.here hx rfl (hb hby at_4) rfl k) ?_
  show Go _ _ _ _ _ _ _ T0 (mkF m 5 #[.val (.int i0), .val (.int i1), .val (.int i2), .val (.int i3), .val (.int i4), .unset, .unset, .unset, .unset, .unset, .unset, .unset, .unset, .unset, .unset, .unset, .unset, .unset, .unset] [(.int (i0 &&& (255 : Int32)))])
  refine Go.step (fun t k => XS.istore X0.here hx rfl (hb hby at_5) rfl (l' := #[.val (.int i0), .val (.int i1), .val (.int i2), .val (.int i3), .val (.int i4), .val (.int (i0 &&& (255 : Int32))), .unset, .unset, .unset, .unset, .unset, .unset, .unset, .unset, .unset, .unset, .unset, .unset, .unset]) rfl k) ?_
  show Go _ _ _ _ _ _ _ T0 (mkF m 7 #[.val (.int i0), .val (.int i1), .val (.int i2), .val (.int i3), .val (.int i4), .val (.int (i0 &&& (255 : Int32))), .unset, .unset, .unset, .unset, .unset, .unset, .unset, .unset, .unset, .unset, .unset, .unset, .unset] [])
  obtain ⟨na, hna, ena⟩ := own_255 i0
  rw [ena]
  show Go _ _ _ _ _ _ _ T0 (mkF m 7 #[.val (.int i0), .val (.int i1), .val (.int i2), .val (.int i3), .val (.int i4), .val (.int (Int32.ofNat na)), .unset, .unset, .unset, .unset, .unset, .unset, .unset, .unset, .unset, .unset, .unset, .unset, .unset] [])
  refine Go.step (fun t k => XS.iloadN X0.here hx rfl (hb hby at_7) rfl k) ?_
  show Go _ _ _ _ _ _ _ T0 (mkF m 8 #[.val (.int i0), .val (.int i1), .val (.int i2), .val (.int i3), .val (.int i4), .val (.int (Int32.ofNat na)), .unset, .unset, .unset, .unset, .unset, .unset, .unset, .unset, .unset, .unset, .unset, .unset, .unset] [(.int i1)])
  refine Go.step (fun t k => XS.sipush X0.here hx rfl (hb hby at_8) k) ?_
  show Go _ _ _ _ _ _ _ T0 (mkF m 11 #[.val (.int i0), .val (.int i1), .val (.int i2), .val (.int i3), .val (.int i4), .val (.int (Int32.ofNat na)), .unset, .unset, .unset, .unset, .unset, .unset, .unset, .unset, .unset, .unset, .unset, .unset, .unset] [(.int (255 : Int32)), (.int i1)])
  refine Go.step (fun t k => XS.iand X0.here hx rfl (hb hby at_11) rfl k) ?_
  show Go _ _ _ _ _ _ _ T0 (mkF m 12 #[.val (.int i0), .val (.int i1), .val (.int i2), .val (.int i3), .val (.int i4), .val (.int (Int32.ofNat na)), .unset, .unset, .unset, .unset, .unset, .unset, .unset, .unset, .unset, .unset, .unset, .unset, .unset] [(.int (i1 &&& (255 : Int32)))])
  refine Go.step (fun t k => XS.istore X0.here hx rfl (hb hby at_12) rfl (l' := #[.val (.int i0), .val (.int i1), .val (.int i2), .val (.int i3), .val (.int i4), .val (.int (Int32.ofNat na)), .val (.int (i1 &&& (255 : Int32))), .unset, .unset, .unset, .unset, .unset, .unset, .unset, .unset, .unset, .unset, .unset, .unset]) rfl k) ?_
  show Go _ _ _ _ _ _ _ T0 (mkF m 14 #[.val (.int i0), .val (.int i1), .val (.int i2), .val (.int i3), .val (.int i4), .val (.int (Int32.ofNat na)), .val (.int (i1 &&& (255 : Int32))), .unset, .unset, .unset, .unset, .unset, .unset, .unset, .unset, .unset, .unset, .unset, .unset] [])
  obtain ⟨nb, hnb, enb⟩ := own_255 i1
  rw [enb]
  show Go _ _ _ _ _ _ _ T0 (mkF m 14 #[.val (.int i0), .val (.int i1), .val (.int i2), .val (.int i3), .val (.int i4), .val (.int (Int32.ofNat na)), .val (.int (Int32.ofNat nb)), .unset, .unset, .unset, .unset, .unset, .unset, .unset, .unset, .unset, .unset, .unset, .unset] [])
  refine Go.step (fun t k => XS.iloadN X0.here hx rfl (hb hby at_14) rfl k) ?_
  show Go _ _ _ _ _ _ _ T0 (mkF m 15 #[.val (.int i0), .val (.int i1), .val (.int i2), .val (.int i3), .val (.int i4), .val (.int (Int32.ofNat na)), .val (.int (Int32.ofNat nb)), .unset, .unset, .unset, .unset, .unset, .unset, .unset, .unset, .unset, .unset, .unset, .unset] [(.int i2)])
  refine Go.step (fun t k => XS.sipush X0.here hx rfl (hb hby at_15) k) ?_
  show Go _ _ _ _ _ _ _ T0 (mkF m 18 #[.val (.int i0), .val (.int i1), .val (.int i2), .val (.int i3), .val (.int i4), .val (.int (Int32.ofNat na)), .val (.int (Int32.ofNat nb)), .unset, .unset, .unset, .unset, .unset, .unset, .unset, .unset, .unset, .unset, .unset, .unset] [(.int (255 : Int32)), (.int i2)])
  refine Go.step (fun t k => XS.iand X0.here hx rfl (hb hby at_18) rfl k) ?_
  show Go _ _ _ _ _ _ _ T0 (mkF m 19 #[.val (.int i0), .val (.int i1), .val (.int i2), .val (.int i3), .val (.int i4), .val (.int (Int32.ofNat na)), .val (.int (Int32.ofNat nb)), .unset, .unset, .unset, .unset, .unset, .unset, .unset, .unset, .unset, .unset, .unset, .unset] [(.int (i2 &&& (255 : Int32)))])
  refine Go.step (fun t k => XS.istore X0.here hx rfl (hb hby at_19) rfl (l' := #[.val (.int i0), .val (.int i1), .val (.int i2), .val (.int i3), .val (.int i4), .val (.int (Int32.ofNat na)), .val (.int (Int32.ofNat nb)), .val (.int (i2 &&& (255 : Int32))), .unset, .unset, .unset, .unset, .unset, .unset, .unset, .unset, .unset, .unset, .unset]) rfl k) ?_
  show Go _ _ _ _ _ _ _ T0 (mkF m 21 #[.val (.int i0), .val (.int i1), .val (.int i2), .val (.int i3), .val (.int i4), .val (.int (Int32.ofNat na)), .val (.int (Int32.ofNat nb)), .val (.int (i2 &&& (255 : Int32))), .unset, .unset, .unset, .unset, .unset, .unset, .unset, .unset, .unset, .unset, .unset] [])
  obtain ⟨nc, hnc, enc⟩ := own_255 i2
  rw [enc]
  show Go _ _ _ _ _ _ _ T0 (mkF m 21 #[.val (.int i0), .val (.int i1), .val (.int i2), .val (.int i3), .val (.int i4), .val (.int (Int32.ofNat na)), .val (.int (Int32.ofNat nb)), .val (.int (Int32.ofNat nc)), .unset, .unset, .unset, .unset, .unset, .unset, .unset, .unset, .unset, .unset, .unset] [])
  refine Go.step (fun t k => XS.iloadN X0.here hx rfl (hb hby at_21) rfl k) ?_
  show Go _ _ _ _ _ _ _ T0 (mkF m 22 #[.val (.int i0), .val (.int i1), .val (.int i2), .val (.int i3), .val (.int i4), .val (.int (Int32.ofNat na)), .val (.int (Int32.ofNat nb)), .val (.int (Int32.ofNat nc)), .unset, .unset, .unset, .unset, .unset, .unset, .unset, .unset, .unset, .unset, .unset] [(.int i3)])
  refine Go.step (fun t k => XS.sipush X0.here hx rfl (hb hby at_22) k) ?_
  show Go _ _ _ _ _ _ _ T0 (mkF m 25 #[.val (.int i0), .val (.int i1), .val (.int i2), .val (.int i3), .val (.int i4), .val (.int (Int32.ofNat na)), .val (.int (Int32.ofNat nb)), .val (.int (Int32.ofNat nc)), .unset, .unset, .unset, .unset, .unset, .unset, .unset, .unset, .unset, .unset, .unset] [(.int (255 : Int32)), (.int i3)])
  refine Go.step (fun t k => XS.iand X0.here hx rfl (hb hby at_25) rfl k) ?_
  show Go _ _ _ _ _ _ _ T0 (mkF m 26 #[.val (.int i0), .val (.int i1), .val (.int i2), .val (.int i3), .val (.int i4), .val (.int (Int32.ofNat na)), .val (.int (Int32.ofNat nb)), .val (.int (Int32.ofNat nc)), .unset, .unset, .unset, .unset, .unset, .unset, .unset, .unset, .unset, .unset, .unset] [(.int (i3 &&& (255 : Int32)))])
  refine Go.step (fun t k => XS.istore X0.here hx rfl (hb hby at_26) rfl (l' := #[.val (.int i0), .val (.int i1), .val (.int i2), .val (.int i3), .val (.int i4), .val (.int (Int32.ofNat na)), .val (.int (Int32.ofNat nb)), .val (.int (Int32.ofNat nc)), .val (.int (i3 &&& (255 : Int32))), .unset, .unset, .unset, .unset, .unset, .unset, .unset, .unset, .unset, .unset]) rfl k) ?_
  show Go _ _ _ _ _ _ _ T0 (mkF m 28 #[.val (.int i0), .val (.int i1), .val (.int i2), .val (.int i3), .val (.int i4), .val (.int (Int32.ofNat na)), .val (.int (Int32.ofNat nb)), .val (.int (Int32.ofNat nc)), .val (.int (i3 &&& (255 : Int32))), .unset, .unset, .unset, .unset, .unset, .unset, .unset, .unset, .unset, .unset] [])
  obtain ⟨ng, hng, eng⟩ := own_255 i3
  rw [eng]
  show Go _ _ _ _ _ _ _ T0 (mkF m 28 #[.val (.int i0), .val (.int i1), .val (.int i2), .val (.int i3), .val (.int i4), .val (.int (Int32.ofNat na)), .val (.int (Int32.ofNat nb)), .val (.int (Int32.ofNat nc)), .val (.int (Int32.ofNat ng)), .unset, .unset, .unset, .unset, .unset, .unset, .unset, .unset, .unset, .unset] [])
  refine Go.step (fun t k => XS.iload X0.here hx rfl (hb hby at_28) rfl k) ?_
  show Go _ _ _ _ _ _ _ T0 (mkF m 30 #[.val (.int i0), .val (.int i1), .val (.int i2), .val (.int i3), .val (.int i4), .val (.int (Int32.ofNat na)), .val (.int (Int32.ofNat nb)), .val (.int (Int32.ofNat nc)), .val (.int (Int32.ofNat ng)), .unset, .unset, .unset, .unset, .unset, .unset, .unset, .unset, .unset, .unset] [(.int i4)])
  refine Go.step (fun t k => XS.iconst X0.here hx rfl (hb hby at_30) k) ?_
  show Go _ _ _ _ _ _ _ T0 (mkF m 31 #[.val (.int i0), .val (.int i1), .val (.int i2), .val (.int i3), .val (.int i4), .val (.int (Int32.ofNat na)), .val (.int (Int32.ofNat nb)), .val (.int (Int32.ofNat nc)), .val (.int (Int32.ofNat ng)), .unset, .unset, .unset, .unset, .unset, .unset, .unset, .unset, .unset, .unset] [(.int (1 : Int32)), (.int i4)])
  refine Go.step (fun t k => XS.iand X0.here hx rfl (hb hby at_31) rfl k) ?_
  show Go _ _ _ _ _ _ _ T0 (mkF m 32 #[.val (.int i0), .val (.int i1), .val (.int i2), .val (.int i3), .val (.int i4), .val (.int (Int32.ofNat na)), .val (.int (Int32.ofNat nb)), .val (.int (Int32.ofNat nc)), .val (.int (Int32.ofNat ng)), .unset, .unset, .unset, .unset, .unset, .unset, .unset, .unset, .unset, .unset] [(.int (i4 &&& (1 : Int32)))])
  obtain ⟨q32, hq32⟩ : ∃ q : Bool, q = true ↔ (¬ ((i4 &&& (1 : Int32)) = (0 : Int32))) := ⟨decide (¬ ((i4 &&& (1 : Int32)) = (0 : Int32))), decide_eq_true_iff⟩
  have j32 : Go p e s below 16 128 (fun v h L => v = some (.int (1 : Int32)) ∧ Fr n0 L) T0 (mkF m 40 #[.val (.int i0), .val (.int i1), .val (.int i2), .val (.int i3), .val (.int i4), .val (.int (Int32.ofNat na)), .val (.int (Int32.ofNat nb)), .val (.int (Int32.ofNat nc)), .val (.int (Int32.ofNat ng)), .unset, .unset, .unset, .unset, .unset, .unset, .unset, .unset, .unset, .unset] [(.int (bi (q32 = true)))]) := by
    refine Go.step (fun t k => XS.istore X0.here hx rfl (hb hby at_40) rfl (l' := #[.val (.int i0), .val (.int i1), .val (.int i2), .val (.int i3), .val (.int i4), .val (.int (Int32.ofNat na)), .val (.int (Int32.ofNat nb)), .val (.int (Int32.ofNat nc)), .val (.int (Int32.ofNat ng)), .val (.int (bi (q32 = true))), .unset, .unset, .unset, .unset, .unset, .unset, .unset, .unset, .unset]) rfl k) ?_
    show Go _ _ _ _ _ _ _ T0 (mkF m 42 #[.val (.int i0), .val (.int i1), .val (.int i2), .val (.int i3), .val (.int i4), .val (.int (Int32.ofNat na)), .val (.int (Int32.ofNat nb)), .val (.int (Int32.ofNat nc)), .val (.int (Int32.ofNat ng)), .val (.int (bi (q32 = true))), .unset, .unset, .unset, .unset, .unset, .unset, .unset, .unset, .unset] [])
    refine Go.step (fun t k => XS.iload X0.here hx rfl (hb hby at_42) rfl k) ?_
    show Go _ _ _ _ _ _ _ T0 (mkF m 44 #[.val (.int i0), .val (.int i1), .val (.int i2), .val (.int i3), .val (.int i4), .val (.int (Int32.ofNat na)), .val (.int (Int32.ofNat nb)), .val (.int (Int32.ofNat nc)), .val (.int (Int32.ofNat ng)), .val (.int (bi (q32 = true))), .unset, .unset, .unset, .unset, .unset, .unset, .unset, .unset, .unset] [(.int i4)])
    refine Go.step (fun t k => XS.iconst X0.here hx rfl (hb hby at_44) k) ?_
    show Go _ _ _ _ _ _ _ T0 (mkF m 45 #[.val (.int i0), .val (.int i1), .val (.int i2), .val (.int i3), .val (.int i4), .val (.int (Int32.ofNat na)), .val (.int (Int32.ofNat nb)), .val (.int (Int32.ofNat nc)), .val (.int (Int32.ofNat ng)), .val (.int (bi (q32 = true))), .unset, .unset, .unset, .unset, .unset, .unset, .unset, .unset, .unset] [(.int (2 : Int32)), (.int i4)])
    refine Go.step (fun t k => XS.iand X0.here hx rfl (hb hby at_45) rfl k) ?_
    show Go _ _ _ _ _ _ _ T0 (mkF m 46 #[.val (.int i0), .val (.int i1), .val (.int i2), .val (.int i3), .val (.int i4), .val (.int (Int32.ofNat na)), .val (.int (Int32.ofNat nb)), .val (.int (Int32.ofNat nc)), .val (.int (Int32.ofNat ng)), .val (.int (bi (q32 = true))), .unset, .unset, .unset, .unset, .unset, .unset, .unset, .unset, .unset] [(.int (i4 &&& (2 : Int32)))])
    obtain ⟨q46, hq46⟩ : ∃ q : Bool, q = true ↔ (¬ ((i4 &&& (2 : Int32)) = (0 : Int32))) := ⟨decide (¬ ((i4 &&& (2 : Int32)) = (0 : Int32))), decide_eq_true_iff⟩
    have j46 : Go p e s below 16 128 (fun v h L => v = some (.int (1 : Int32)) ∧ Fr n0 L) T0 (mkF m 54 #[.val (.int i0), .val (.int i1), .val (.int i2), .val (.int i3), .val (.int i4), .val (.int (Int32.ofNat na)), .val (.int (Int32.ofNat nb)), .val (.int (Int32.ofNat nc)), .val (.int (Int32.ofNat ng)), .val (.int (bi (q32 = true))), .unset, .unset, .unset, .unset, .unset, .unset, .unset, .unset, .unset] [(.int (bi (q46 = true)))]) := by
      refine Go.step (fun t k => XS.istore X0.here hx rfl (hb hby at_54) rfl (l' := #[.val (.int i0), .val (.int i1), .val (.int i2), .val (.int i3), .val (.int i4), .val (.int (Int32.ofNat na)), .val (.int (Int32.ofNat nb)), .val (.int (Int32.ofNat nc)), .val (.int (Int32.ofNat ng)), .val (.int (bi (q32 = true))), .val (.int (bi (q46 = true))), .unset, .unset, .unset, .unset, .unset, .unset, .unset, .unset]) rfl k) ?_
      show Go _ _ _ _ _ _ _ T0 (mkF m 56 #[.val (.int i0), .val (.int i1), .val (.int i2), .val (.int i3), .val (.int i4), .val (.int (Int32.ofNat na)), .val (.int (Int32.ofNat nb)), .val (.int (Int32.ofNat nc)), .val (.int (Int32.ofNat ng)), .val (.int (bi (q32 = true))), .val (.int (bi (q46 = true))), .unset, .unset, .unset, .unset, .unset, .unset, .unset, .unset] [])
      refine Go.step (fun t k => XS.iload X0.here hx rfl (hb hby at_56) rfl k) ?_
      show Go _ _ _ _ _ _ _ T0 (mkF m 58 #[.val (.int i0), .val (.int i1), .val (.int i2), .val (.int i3), .val (.int i4), .val (.int (Int32.ofNat na)), .val (.int (Int32.ofNat nb)), .val (.int (Int32.ofNat nc)), .val (.int (Int32.ofNat ng)), .val (.int (bi (q32 = true))), .val (.int (bi (q46 = true))), .unset, .unset, .unset, .unset, .unset, .unset, .unset, .unset] [(.int i4)])
      refine Go.step (fun t k => XS.iconst X0.here hx rfl (hb hby at_58) k) ?_
      show Go _ _ _ _ _ _ _ T0 (mkF m 59 #[.val (.int i0), .val (.int i1), .val (.int i2), .val (.int i3), .val (.int i4), .val (.int (Int32.ofNat na)), .val (.int (Int32.ofNat nb)), .val (.int (Int32.ofNat nc)), .val (.int (Int32.ofNat ng)), .val (.int (bi (q32 = true))), .val (.int (bi (q46 = true))), .unset, .unset, .unset, .unset, .unset, .unset, .unset, .unset] [(.int (4 : Int32)), (.int i4)])
      refine Go.step (fun t k => XS.iand X0.here hx rfl (hb hby at_59) rfl k) ?_
      show Go _ _ _ _ _ _ _ T0 (mkF m 60 #[.val (.int i0), .val (.int i1), .val (.int i2), .val (.int i3), .val (.int i4), .val (.int (Int32.ofNat na)), .val (.int (Int32.ofNat nb)), .val (.int (Int32.ofNat nc)), .val (.int (Int32.ofNat ng)), .val (.int (bi (q32 = true))), .val (.int (bi (q46 = true))), .unset, .unset, .unset, .unset, .unset, .unset, .unset, .unset] [(.int (i4 &&& (4 : Int32)))])
      obtain ⟨q60, hq60⟩ : ∃ q : Bool, q = true ↔ (¬ ((i4 &&& (4 : Int32)) = (0 : Int32))) := ⟨decide (¬ ((i4 &&& (4 : Int32)) = (0 : Int32))), decide_eq_true_iff⟩
      have j60 : Go p e s below 16 128 (fun v h L => v = some (.int (1 : Int32)) ∧ Fr n0 L) T0 (mkF m 68 #[.val (.int i0), .val (.int i1), .val (.int i2), .val (.int i3), .val (.int i4), .val (.int (Int32.ofNat na)), .val (.int (Int32.ofNat nb)), .val (.int (Int32.ofNat nc)), .val (.int (Int32.ofNat ng)), .val (.int (bi (q32 = true))), .val (.int (bi (q46 = true))), .unset, .unset, .unset, .unset, .unset, .unset, .unset, .unset] [(.int (bi (q60 = true)))]) := by
        refine Go.step (fun t k => XS.istore X0.here hx rfl (hb hby at_68) rfl (l' := #[.val (.int i0), .val (.int i1), .val (.int i2), .val (.int i3), .val (.int i4), .val (.int (Int32.ofNat na)), .val (.int (Int32.ofNat nb)), .val (.int (Int32.ofNat nc)), .val (.int (Int32.ofNat ng)), .val (.int (bi (q32 = true))), .val (.int (bi (q46 = true))), .val (.int (bi (q60 = true))), .unset, .unset, .unset, .unset, .unset, .unset, .unset]) rfl k) ?_
        show Go _ _ _ _ _ _ _ T0 (mkF m 70 #[.val (.int i0), .val (.int i1), .val (.int i2), .val (.int i3), .val (.int i4), .val (.int (Int32.ofNat na)), .val (.int (Int32.ofNat nb)), .val (.int (Int32.ofNat nc)), .val (.int (Int32.ofNat ng)), .val (.int (bi (q32 = true))), .val (.int (bi (q46 = true))), .val (.int (bi (q60 = true))), .unset, .unset, .unset, .unset, .unset, .unset, .unset] [])
        refine Go.step (fun t k => XS.iload X0.here hx rfl (hb hby at_70) rfl k) ?_
        show Go _ _ _ _ _ _ _ T0 (mkF m 72 #[.val (.int i0), .val (.int i1), .val (.int i2), .val (.int i3), .val (.int i4), .val (.int (Int32.ofNat na)), .val (.int (Int32.ofNat nb)), .val (.int (Int32.ofNat nc)), .val (.int (Int32.ofNat ng)), .val (.int (bi (q32 = true))), .val (.int (bi (q46 = true))), .val (.int (bi (q60 = true))), .unset, .unset, .unset, .unset, .unset, .unset, .unset] [(.int i4)])
        refine Go.step (fun t k => XS.bipush X0.here hx rfl (hb hby at_72) k) ?_
        show Go _ _ _ _ _ _ _ T0 (mkF m 74 #[.val (.int i0), .val (.int i1), .val (.int i2), .val (.int i3), .val (.int i4), .val (.int (Int32.ofNat na)), .val (.int (Int32.ofNat nb)), .val (.int (Int32.ofNat nc)), .val (.int (Int32.ofNat ng)), .val (.int (bi (q32 = true))), .val (.int (bi (q46 = true))), .val (.int (bi (q60 = true))), .unset, .unset, .unset, .unset, .unset, .unset, .unset] [(.int (8 : Int32)), (.int i4)])
        refine Go.step (fun t k => XS.iand X0.here hx rfl (hb hby at_74) rfl k) ?_
        show Go _ _ _ _ _ _ _ T0 (mkF m 75 #[.val (.int i0), .val (.int i1), .val (.int i2), .val (.int i3), .val (.int i4), .val (.int (Int32.ofNat na)), .val (.int (Int32.ofNat nb)), .val (.int (Int32.ofNat nc)), .val (.int (Int32.ofNat ng)), .val (.int (bi (q32 = true))), .val (.int (bi (q46 = true))), .val (.int (bi (q60 = true))), .unset, .unset, .unset, .unset, .unset, .unset, .unset] [(.int (i4 &&& (8 : Int32)))])
        obtain ⟨q75, hq75⟩ : ∃ q : Bool, q = true ↔ (¬ ((i4 &&& (8 : Int32)) = (0 : Int32))) := ⟨decide (¬ ((i4 &&& (8 : Int32)) = (0 : Int32))), decide_eq_true_iff⟩
        have j75 : Go p e s below 16 128 (fun v h L => v = some (.int (1 : Int32)) ∧ Fr n0 L) T0 (mkF m 83 #[.val (.int i0), .val (.int i1), .val (.int i2), .val (.int i3), .val (.int i4), .val (.int (Int32.ofNat na)), .val (.int (Int32.ofNat nb)), .val (.int (Int32.ofNat nc)), .val (.int (Int32.ofNat ng)), .val (.int (bi (q32 = true))), .val (.int (bi (q46 = true))), .val (.int (bi (q60 = true))), .unset, .unset, .unset, .unset, .unset, .unset, .unset] [(.int (bi (q75 = true)))]) := by
          refine Go.step (fun t k => XS.istore X0.here hx rfl (hb hby at_83) rfl (l' := #[.val (.int i0), .val (.int i1), .val (.int i2), .val (.int i3), .val (.int i4), .val (.int (Int32.ofNat na)), .val (.int (Int32.ofNat nb)), .val (.int (Int32.ofNat nc)), .val (.int (Int32.ofNat ng)), .val (.int (bi (q32 = true))), .val (.int (bi (q46 = true))), .val (.int (bi (q60 = true))), .val (.int (bi (q75 = true))), .unset, .unset, .unset, .unset, .unset, .unset]) rfl k) ?_
          show Go _ _ _ _ _ _ _ T0 (mkF m 85 #[.val (.int i0), .val (.int i1), .val (.int i2), .val (.int i3), .val (.int i4), .val (.int (Int32.ofNat na)), .val (.int (Int32.ofNat nb)), .val (.int (Int32.ofNat nc)), .val (.int (Int32.ofNat ng)), .val (.int (bi (q32 = true))), .val (.int (bi (q46 = true))), .val (.int (bi (q60 = true))), .val (.int (bi (q75 = true))), .unset, .unset, .unset, .unset, .unset, .unset] [])
          obtain ⟨T1, h1, X1, e1, E1, A1, D1, -, st1⟩ := newO X0 hx hZ hown (hw _ (List.mem_of_getElem? (i := 0) rfl)) (hw _ (List.mem_of_getElem? (i := 1) rfl)) (hw _ (List.mem_of_getElem? (i := 2) rfl)) e0 (g := (mkF m 85 #[.val (.int i0), .val (.int i1), .val (.int i2), .val (.int i3), .val (.int i4), .val (.int (Int32.ofNat na)), .val (.int (Int32.ofNat nb)), .val (.int (Int32.ofNat nc)), .val (.int (Int32.ofNat ng)), .val (.int (bi (q32 = true))), .val (.int (bi (q46 = true))), .val (.int (bi (q60 = true))), .val (.int (bi (q75 = true))), .unset, .unset, .unset, .unset, .unset, .unset] [])) rfl (hb hby at_85) (by decide) (by decide)
          obtain ⟨b1, g1⟩ : ∃ z, z = h0.size := ⟨_, rfl⟩
          rw [← g1] at A1 D1 st1
          have gn_b1 : n0 ≤ b1 := Nat.le_trans Z0 (Nat.le_of_eq g1.symm)
          have Z1 : n0 ≤ h1.size := Nat.le_trans Z0 E1.1
          have F1_bits0 : Fld Z h1 b1 "com/example/touchtree/touchtree/node/PointerSet" "bits0" "J" (.long (0 : Int64)) := D1 (Or.inl (hw _ (List.mem_of_getElem? (i := 15) rfl))) (ty := .long) (by decide)
          have F1_bits1 : Fld Z h1 b1 "com/example/touchtree/touchtree/node/PointerSet" "bits1" "J" (.long (0 : Int64)) := D1 (Or.inl (hw _ (List.mem_of_getElem? (i := 17) rfl))) (ty := .long) (by decide)
          have F1_bits2 : Fld Z h1 b1 "com/example/touchtree/touchtree/node/PointerSet" "bits2" "J" (.long (0 : Int64)) := D1 (Or.inl (hw _ (List.mem_of_getElem? (i := 19) rfl))) (ty := .long) (by decide)
          have F1_bits3 : Fld Z h1 b1 "com/example/touchtree/touchtree/node/PointerSet" "bits3" "J" (.long (0 : Int64)) := D1 (Or.inl (hw _ (List.mem_of_getElem? (i := 21) rfl))) (ty := .long) (by decide)
          refine Go.step (st1) ?_
          show Go _ _ _ _ _ _ _ T1 (mkF m 88 #[.val (.int i0), .val (.int i1), .val (.int i2), .val (.int i3), .val (.int i4), .val (.int (Int32.ofNat na)), .val (.int (Int32.ofNat nb)), .val (.int (Int32.ofNat nc)), .val (.int (Int32.ofNat ng)), .val (.int (bi (q32 = true))), .val (.int (bi (q46 = true))), .val (.int (bi (q60 = true))), .val (.int (bi (q75 = true))), .unset, .unset, .unset, .unset, .unset, .unset] [(.ref b1)])
          refine Go.step (fun t k => XS.dup X1.here hx rfl (hb hby at_88) rfl rfl k) ?_
          show Go _ _ _ _ _ _ _ T1 (mkF m 89 #[.val (.int i0), .val (.int i1), .val (.int i2), .val (.int i3), .val (.int i4), .val (.int (Int32.ofNat na)), .val (.int (Int32.ofNat nb)), .val (.int (Int32.ofNat nc)), .val (.int (Int32.ofNat ng)), .val (.int (bi (q32 = true))), .val (.int (bi (q46 = true))), .val (.int (bi (q60 = true))), .val (.int (bi (q75 = true))), .unset, .unset, .unset, .unset, .unset, .unset] [(.ref b1), (.ref b1)])
          obtain ⟨v2, T2, L2, X2, q2, st2⟩ := c_init X1 hx hZ hown (y := (⟨"com/example/touchtree/touchtree/node/PointerSet", "<init>", "()V"⟩ : MethodName)) (hw _ (List.mem_of_getElem? (i := 3) rfl)) (hw _ (List.mem_of_getElem? (i := 4) rfl)) (hw _ (List.mem_of_getElem? (i := 2) rfl)) (hw _ (List.mem_of_getElem? (i := 5) rfl)) rfl (by decide) (a := b1) (argsL := []) (rest := [(.ref b1)]) (rmI l Z a0 hw [] b1    h1 n0 Z1 A1   ) e1 pd_0 rfl (by rw [hml]; rfl) (W := 1) (by show 2 * 0 + _ ≤ _; exact Nat.le_of_eq rfl) (by decide) (by decide) (by decide) (by decide) (hb hby at_89) (Ls := #[.val (.int i0), .val (.int i1), .val (.int i2), .val (.int i3), .val (.int i4), .val (.int (Int32.ofNat na)), .val (.int (Int32.ofNat nb)), .val (.int (Int32.ofNat nc)), .val (.int (Int32.ofNat ng)), .val (.int (bi (q32 = true))), .val (.int (bi (q46 = true))), .val (.int (bi (q60 = true))), .val (.int (bi (q75 = true))), .unset, .unset, .unset, .unset, .unset, .unset])
          obtain ⟨rfl, rfl, e2⟩ := q2
          have N2 := Fr.app N0 (Fr.nil n0)
          refine Go.step (st2) ?_
          show Go _ _ _ _ _ _ _ T2 (mkF m 92 #[.val (.int i0), .val (.int i1), .val (.int i2), .val (.int i3), .val (.int i4), .val (.int (Int32.ofNat na)), .val (.int (Int32.ofNat nb)), .val (.int (Int32.ofNat nc)), .val (.int (Int32.ofNat ng)), .val (.int (bi (q32 = true))), .val (.int (bi (q46 = true))), .val (.int (bi (q60 = true))), .val (.int (bi (q75 = true))), .unset, .unset, .unset, .unset, .unset, .unset] [(.ref b1)])
          refine Go.step (fun t k => XS.astore X2.here hx rfl (hb hby at_92) rfl rfl (l' := #[.val (.int i0), .val (.int i1), .val (.int i2), .val (.int i3), .val (.int i4), .val (.int (Int32.ofNat na)), .val (.int (Int32.ofNat nb)), .val (.int (Int32.ofNat nc)), .val (.int (Int32.ofNat ng)), .val (.int (bi (q32 = true))), .val (.int (bi (q46 = true))), .val (.int (bi (q60 = true))), .val (.int (bi (q75 = true))), .val (.ref b1), .unset, .unset, .unset, .unset, .unset]) rfl k) ?_
          show Go _ _ _ _ _ _ _ T2 (mkF m 94 #[.val (.int i0), .val (.int i1), .val (.int i2), .val (.int i3), .val (.int i4), .val (.int (Int32.ofNat na)), .val (.int (Int32.ofNat nb)), .val (.int (Int32.ofNat nc)), .val (.int (Int32.ofNat ng)), .val (.int (bi (q32 = true))), .val (.int (bi (q46 = true))), .val (.int (bi (q60 = true))), .val (.int (bi (q75 = true))), .val (.ref b1), .unset, .unset, .unset, .unset, .unset] [])
          refine Go.step (fun t k => XS.aload X2.here hx rfl (hb hby at_94) rfl rfl k) ?_
          show Go _ _ _ _ _ _ _ T2 (mkF m 96 #[.val (.int i0), .val (.int i1), .val (.int i2), .val (.int i3), .val (.int i4), .val (.int (Int32.ofNat na)), .val (.int (Int32.ofNat nb)), .val (.int (Int32.ofNat nc)), .val (.int (Int32.ofNat ng)), .val (.int (bi (q32 = true))), .val (.int (bi (q46 = true))), .val (.int (bi (q60 = true))), .val (.int (bi (q75 = true))), .val (.ref b1), .unset, .unset, .unset, .unset, .unset] [(.ref b1)])
          obtain ⟨v3, T3, L3, X3, q3, st3⟩ := c_virt X2 hx hZ hown (y' := (⟨"com/example/touchtree/touchtree/node/PointerSet", "isEmpty", "()Z"⟩ : MethodName)) (y := (⟨"com/example/touchtree/touchtree/node/PointerSet", "isEmpty", "()Z"⟩ : MethodName)) (C := "com/example/touchtree/touchtree/node/PointerSet") (hw _ (List.mem_of_getElem? (i := 9) rfl)) (hw _ (List.mem_of_getElem? (i := 10) rfl)) (notFace_of_selects (args := #[]) (mvT hZ (hw _ (List.mem_of_getElem? (i := 12) rfl)))) (hw _ (List.mem_of_getElem? (i := 12) rfl)) (hw _ (List.mem_of_getElem? (i := 11) rfl)) (hw _ (List.mem_of_getElem? (i := 2) rfl)) (hw _ (List.mem_of_getElem? (i := 13) rfl)) (by decide) (a := b1) (argsL := []) (rest := []) (rmE l Z a0 hw [] b1 0 (0 : Int64) (0 : Int64) (0 : Int64) (0 : Int64) (fun _ => false) h1 n0 Z1 (by decide) Bits.zero A1 F1_bits0 F1_bits1 F1_bits2 F1_bits3) e2 A1 pd_1 rfl (by rw [hml]; rfl) (W := 0) (by show 2 * 0 + _ ≤ _; exact Nat.le_of_eq rfl) (by decide) (by decide) (by decide) (by decide) (hb hby at_96) (Ls := #[.val (.int i0), .val (.int i1), .val (.int i2), .val (.int i3), .val (.int i4), .val (.int (Int32.ofNat na)), .val (.int (Int32.ofNat nb)), .val (.int (Int32.ofNat nc)), .val (.int (Int32.ofNat ng)), .val (.int (bi (q32 = true))), .val (.int (bi (q46 = true))), .val (.int (bi (q60 = true))), .val (.int (bi (q75 = true))), .val (.ref b1), .unset, .unset, .unset, .unset, .unset])
          obtain ⟨rfl, rfl, e3⟩ := q3
          have N3 := Fr.app N2 (Fr.nil n0)
          refine Go.step (st3) ?_
          show Go _ _ _ _ _ _ _ T3 (mkF m 99 #[.val (.int i0), .val (.int i1), .val (.int i2), .val (.int i3), .val (.int i4), .val (.int (Int32.ofNat na)), .val (.int (Int32.ofNat nb)), .val (.int (Int32.ofNat nc)), .val (.int (Int32.ofNat ng)), .val (.int (bi (q32 = true))), .val (.int (bi (q46 = true))), .val (.int (bi (q60 = true))), .val (.int (bi (q75 = true))), .val (.ref b1), .unset, .unset, .unset, .unset, .unset] [(.int (bi (Emp (fun _ => false))))])
          refine Go.step (fun t k => XS.istore X3.here hx rfl (hb hby at_99) rfl (l' := #[.val (.int i0), .val (.int i1), .val (.int i2), .val (.int i3), .val (.int i4), .val (.int (Int32.ofNat na)), .val (.int (Int32.ofNat nb)), .val (.int (Int32.ofNat nc)), .val (.int (Int32.ofNat ng)), .val (.int (bi (q32 = true))), .val (.int (bi (q46 = true))), .val (.int (bi (q60 = true))), .val (.int (bi (q75 = true))), .val (.ref b1), .val (.int (bi (Emp (fun _ => false)))), .unset, .unset, .unset, .unset]) rfl k) ?_
          show Go _ _ _ _ _ _ _ T3 (mkF m 101 #[.val (.int i0), .val (.int i1), .val (.int i2), .val (.int i3), .val (.int i4), .val (.int (Int32.ofNat na)), .val (.int (Int32.ofNat nb)), .val (.int (Int32.ofNat nc)), .val (.int (Int32.ofNat ng)), .val (.int (bi (q32 = true))), .val (.int (bi (q46 = true))), .val (.int (bi (q60 = true))), .val (.int (bi (q75 = true))), .val (.ref b1), .val (.int (bi (Emp (fun _ => false)))), .unset, .unset, .unset, .unset] [])
          refine Go.step (fun t k => XS.iload X3.here hx rfl (hb hby at_101) rfl k) ?_
          show Go _ _ _ _ _ _ _ T3 (mkF m 103 #[.val (.int i0), .val (.int i1), .val (.int i2), .val (.int i3), .val (.int i4), .val (.int (Int32.ofNat na)), .val (.int (Int32.ofNat nb)), .val (.int (Int32.ofNat nc)), .val (.int (Int32.ofNat ng)), .val (.int (bi (q32 = true))), .val (.int (bi (q46 = true))), .val (.int (bi (q60 = true))), .val (.int (bi (q75 = true))), .val (.ref b1), .val (.int (bi (Emp (fun _ => false)))), .unset, .unset, .unset, .unset] [(.int (bi (q32 = true)))])
          have k113 : ∀ (v113_0 v113_1 v113_2 v113_3 : Int64) (T113 : State) (lc113 : List Loc) (hh113 : Heap) (X113 : Stand p l e room_1 s m #[(.int i0), (.int i1), (.int i2), (.int i3), (.int i4)] below meth c T113 lc113 1 4) (e113 : T113.heap = hh113) (N113 : Fr n0 lc113) (Z113 : n0 ≤ hh113.size) (f113_0 : Exa Z hh113 b1 "com/example/touchtree/touchtree/node/PointerSet") (f113_1 : Fld Z hh113 b1 "com/example/touchtree/touchtree/node/PointerSet" "bits0" "J" (.long v113_0)) (f113_2 : Fld Z hh113 b1 "com/example/touchtree/touchtree/node/PointerSet" "bits1" "J" (.long v113_1)) (f113_3 : Fld Z hh113 b1 "com/example/touchtree/touchtree/node/PointerSet" "bits2" "J" (.long v113_2)) (f113_4 : Fld Z hh113 b1 "com/example/touchtree/touchtree/node/PointerSet" "bits3" "J" (.long v113_3)) (B113 : Bits (fun i => (q32 && decide (i = na))) v113_0 v113_1 v113_2 v113_3),
              Go p e s below 16 128 (fun v h L => v = some (.int (1 : Int32)) ∧ Fr n0 L) T113 (mkF m 113 #[.val (.int i0), .val (.int i1), .val (.int i2), .val (.int i3), .val (.int i4), .val (.int (Int32.ofNat na)), .val (.int (Int32.ofNat nb)), .val (.int (Int32.ofNat nc)), .val (.int (Int32.ofNat ng)), .val (.int (bi (q32 = true))), .val (.int (bi (q46 = true))), .val (.int (bi (q60 = true))), .val (.int (bi (q75 = true))), .val (.ref b1), .val (.int (bi (Emp (fun _ => false)))), .unset, .unset, .unset, .unset] []) := by
            intro v113_0 v113_1 v113_2 v113_3 T113 lc113 hh113 X113 e113 N113 Z113 f113_0 f113_1 f113_2 f113_3 f113_4 B113
            refine Go.step (fun t k => XS.iload X113.here hx rfl (hb hby at_113) rfl k) ?_
            show Go _ _ _ _ _ _ _ T113 (mkF m 115 #[.val (.int i0), .val (.int i1), .val (.int i2), .val (.int i3), .val (.int i4), .val (.int (Int32.ofNat na)), .val (.int (Int32.ofNat nb)), .val (.int (Int32.ofNat nc)), .val (.int (Int32.ofNat ng)), .val (.int (bi (q32 = true))), .val (.int (bi (q46 = true))), .val (.int (bi (q60 = true))), .val (.int (bi (q75 = true))), .val (.ref b1), .val (.int (bi (Emp (fun _ => false)))), .unset, .unset, .unset, .unset] [(.int (bi (q46 = true)))])
            have k125 : ∀ (v125_0 v125_1 v125_2 v125_3 : Int64) (T125 : State) (lc125 : List Loc) (hh125 : Heap) (X125 : Stand p l e room_1 s m #[(.int i0), (.int i1), (.int i2), (.int i3), (.int i4)] below meth c T125 lc125 1 4) (e125 : T125.heap = hh125) (N125 : Fr n0 lc125) (Z125 : n0 ≤ hh125.size) (f125_0 : Exa Z hh125 b1 "com/example/touchtree/touchtree/node/PointerSet") (f125_1 : Fld Z hh125 b1 "com/example/touchtree/touchtree/node/PointerSet" "bits0" "J" (.long v125_0)) (f125_2 : Fld Z hh125 b1 "com/example/touchtree/touchtree/node/PointerSet" "bits1" "J" (.long v125_1)) (f125_3 : Fld Z hh125 b1 "com/example/touchtree/touchtree/node/PointerSet" "bits2" "J" (.long v125_2)) (f125_4 : Fld Z hh125 b1 "com/example/touchtree/touchtree/node/PointerSet" "bits3" "J" (.long v125_3)) (B125 : Bits (fun i => (q32 && decide (i = na)) || (q46 && decide (i = nb))) v125_0 v125_1 v125_2 v125_3),
                Go p e s below 16 128 (fun v h L => v = some (.int (1 : Int32)) ∧ Fr n0 L) T125 (mkF m 125 #[.val (.int i0), .val (.int i1), .val (.int i2), .val (.int i3), .val (.int i4), .val (.int (Int32.ofNat na)), .val (.int (Int32.ofNat nb)), .val (.int (Int32.ofNat nc)), .val (.int (Int32.ofNat ng)), .val (.int (bi (q32 = true))), .val (.int (bi (q46 = true))), .val (.int (bi (q60 = true))), .val (.int (bi (q75 = true))), .val (.ref b1), .val (.int (bi (Emp (fun _ => false)))), .unset, .unset, .unset, .unset] []) := by
              intro v125_0 v125_1 v125_2 v125_3 T125 lc125 hh125 X125 e125 N125 Z125 f125_0 f125_1 f125_2 f125_3 f125_4 B125
              refine Go.step (fun t k => XS.iload X125.here hx rfl (hb hby at_125) rfl k) ?_
              show Go _ _ _ _ _ _ _ T125 (mkF m 127 #[.val (.int i0), .val (.int i1), .val (.int i2), .val (.int i3), .val (.int i4), .val (.int (Int32.ofNat na)), .val (.int (Int32.ofNat nb)), .val (.int (Int32.ofNat nc)), .val (.int (Int32.ofNat ng)), .val (.int (bi (q32 = true))), .val (.int (bi (q46 = true))), .val (.int (bi (q60 = true))), .val (.int (bi (q75 = true))), .val (.ref b1), .val (.int (bi (Emp (fun _ => false)))), .unset, .unset, .unset, .unset] [(.int (bi (q60 = true)))])
              have k137 : ∀ (v137_0 v137_1 v137_2 v137_3 : Int64) (T137 : State) (lc137 : List Loc) (hh137 : Heap) (X137 : Stand p l e room_1 s m #[(.int i0), (.int i1), (.int i2), (.int i3), (.int i4)] below meth c T137 lc137 1 4) (e137 : T137.heap = hh137) (N137 : Fr n0 lc137) (Z137 : n0 ≤ hh137.size) (f137_0 : Exa Z hh137 b1 "com/example/touchtree/touchtree/node/PointerSet") (f137_1 : Fld Z hh137 b1 "com/example/touchtree/touchtree/node/PointerSet" "bits0" "J" (.long v137_0)) (f137_2 : Fld Z hh137 b1 "com/example/touchtree/touchtree/node/PointerSet" "bits1" "J" (.long v137_1)) (f137_3 : Fld Z hh137 b1 "com/example/touchtree/touchtree/node/PointerSet" "bits2" "J" (.long v137_2)) (f137_4 : Fld Z hh137 b1 "com/example/touchtree/touchtree/node/PointerSet" "bits3" "J" (.long v137_3)) (B137 : Bits (fun i => ((q32 && decide (i = na)) || (q46 && decide (i = nb))) || (q60 && decide (i = nc))) v137_0 v137_1 v137_2 v137_3),
                  Go p e s below 16 128 (fun v h L => v = some (.int (1 : Int32)) ∧ Fr n0 L) T137 (mkF m 137 #[.val (.int i0), .val (.int i1), .val (.int i2), .val (.int i3), .val (.int i4), .val (.int (Int32.ofNat na)), .val (.int (Int32.ofNat nb)), .val (.int (Int32.ofNat nc)), .val (.int (Int32.ofNat ng)), .val (.int (bi (q32 = true))), .val (.int (bi (q46 = true))), .val (.int (bi (q60 = true))), .val (.int (bi (q75 = true))), .val (.ref b1), .val (.int (bi (Emp (fun _ => false)))), .unset, .unset, .unset, .unset] []) := by
                intro v137_0 v137_1 v137_2 v137_3 T137 lc137 hh137 X137 e137 N137 Z137 f137_0 f137_1 f137_2 f137_3 f137_4 B137
                refine Go.step (fun t k => XS.iload X137.here hx rfl (hb hby at_137) rfl k) ?_
                show Go _ _ _ _ _ _ _ T137 (mkF m 139 #[.val (.int i0), .val (.int i1), .val (.int i2), .val (.int i3), .val (.int i4), .val (.int (Int32.ofNat na)), .val (.int (Int32.ofNat nb)), .val (.int (Int32.ofNat nc)), .val (.int (Int32.ofNat ng)), .val (.int (bi (q32 = true))), .val (.int (bi (q46 = true))), .val (.int (bi (q60 = true))), .val (.int (bi (q75 = true))), .val (.ref b1), .val (.int (bi (Emp (fun _ => false)))), .unset, .unset, .unset, .unset] [(.int (bi (q75 = true)))])
                have k149 : ∀ (v149_0 v149_1 v149_2 v149_3 : Int64) (T149 : State) (lc149 : List Loc) (hh149 : Heap) (X149 : Stand p l e room_1 s m #[(.int i0), (.int i1), (.int i2), (.int i3), (.int i4)] below meth c T149 lc149 1 4) (e149 : T149.heap = hh149) (N149 : Fr n0 lc149) (Z149 : n0 ≤ hh149.size) (f149_0 : Exa Z hh149 b1 "com/example/touchtree/touchtree/node/PointerSet") (f149_1 : Fld Z hh149 b1 "com/example/touchtree/touchtree/node/PointerSet" "bits0" "J" (.long v149_0)) (f149_2 : Fld Z hh149 b1 "com/example/touchtree/touchtree/node/PointerSet" "bits1" "J" (.long v149_1)) (f149_3 : Fld Z hh149 b1 "com/example/touchtree/touchtree/node/PointerSet" "bits2" "J" (.long v149_2)) (f149_4 : Fld Z hh149 b1 "com/example/touchtree/touchtree/node/PointerSet" "bits3" "J" (.long v149_3)) (B149 : Bits (fun i => (((q32 && decide (i = na)) || (q46 && decide (i = nb))) || (q60 && decide (i = nc))) && !(q75 && decide (i = ng))) v149_0 v149_1 v149_2 v149_3),
                    Go p e s below 16 128 (fun v h L => v = some (.int (1 : Int32)) ∧ Fr n0 L) T149 (mkF m 149 #[.val (.int i0), .val (.int i1), .val (.int i2), .val (.int i3), .val (.int i4), .val (.int (Int32.ofNat na)), .val (.int (Int32.ofNat nb)), .val (.int (Int32.ofNat nc)), .val (.int (Int32.ofNat ng)), .val (.int (bi (q32 = true))), .val (.int (bi (q46 = true))), .val (.int (bi (q60 = true))), .val (.int (bi (q75 = true))), .val (.ref b1), .val (.int (bi (Emp (fun _ => false)))), .unset, .unset, .unset, .unset] []) := by
                  intro v149_0 v149_1 v149_2 v149_3 T149 lc149 hh149 X149 e149 N149 Z149 f149_0 f149_1 f149_2 f149_3 f149_4 B149
                  refine Go.step (fun t k => XS.iload X149.here hx rfl (hb hby at_149) rfl k) ?_
                  show Go _ _ _ _ _ _ _ T149 (mkF m 151 #[.val (.int i0), .val (.int i1), .val (.int i2), .val (.int i3), .val (.int i4), .val (.int (Int32.ofNat na)), .val (.int (Int32.ofNat nb)), .val (.int (Int32.ofNat nc)), .val (.int (Int32.ofNat ng)), .val (.int (bi (q32 = true))), .val (.int (bi (q46 = true))), .val (.int (bi (q60 = true))), .val (.int (bi (q75 = true))), .val (.ref b1), .val (.int (bi (Emp (fun _ => false)))), .unset, .unset, .unset, .unset] [(.int (bi (q32 = true)))])
                  obtain ⟨q151, hq151⟩ : ∃ q : Bool, q = true ↔ ((q32 = true) ∧ (¬ (q75 = true) ∨ (¬ ((Int32.ofNat na) = (Int32.ofNat ng))))) := ⟨decide ((q32 = true) ∧ (¬ (q75 = true) ∨ (¬ ((Int32.ofNat na) = (Int32.ofNat ng))))), decide_eq_true_iff⟩
                  have j151 : Go p e s below 16 128 (fun v h L => v = some (.int (1 : Int32)) ∧ Fr n0 L) T149 (mkF m 171 #[.val (.int i0), .val (.int i1), .val (.int i2), .val (.int i3), .val (.int i4), .val (.int (Int32.ofNat na)), .val (.int (Int32.ofNat nb)), .val (.int (Int32.ofNat nc)), .val (.int (Int32.ofNat ng)), .val (.int (bi (q32 = true))), .val (.int (bi (q46 = true))), .val (.int (bi (q60 = true))), .val (.int (bi (q75 = true))), .val (.ref b1), .val (.int (bi (Emp (fun _ => false)))), .unset, .unset, .unset, .unset] [(.int (bi (q151 = true)))]) := by
                    refine Go.step (fun t k => XS.istore X149.here hx rfl (hb hby at_171) rfl (l' := #[.val (.int i0), .val (.int i1), .val (.int i2), .val (.int i3), .val (.int i4), .val (.int (Int32.ofNat na)), .val (.int (Int32.ofNat nb)), .val (.int (Int32.ofNat nc)), .val (.int (Int32.ofNat ng)), .val (.int (bi (q32 = true))), .val (.int (bi (q46 = true))), .val (.int (bi (q60 = true))), .val (.int (bi (q75 = true))), .val (.ref b1), .val (.int (bi (Emp (fun _ => false)))), .val (.int (bi (q151 = true))), .unset, .unset, .unset]) rfl k) ?_
                    show Go _ _ _ _ _ _ _ T149 (mkF m 173 #[.val (.int i0), .val (.int i1), .val (.int i2), .val (.int i3), .val (.int i4), .val (.int (Int32.ofNat na)), .val (.int (Int32.ofNat nb)), .val (.int (Int32.ofNat nc)), .val (.int (Int32.ofNat ng)), .val (.int (bi (q32 = true))), .val (.int (bi (q46 = true))), .val (.int (bi (q60 = true))), .val (.int (bi (q75 = true))), .val (.ref b1), .val (.int (bi (Emp (fun _ => false)))), .val (.int (bi (q151 = true))), .unset, .unset, .unset] [])
                    refine Go.step (fun t k => XS.iload X149.here hx rfl (hb hby at_173) rfl k) ?_
                    show Go _ _ _ _ _ _ _ T149 (mkF m 175 #[.val (.int i0), .val (.int i1), .val (.int i2), .val (.int i3), .val (.int i4), .val (.int (Int32.ofNat na)), .val (.int (Int32.ofNat nb)), .val (.int (Int32.ofNat nc)), .val (.int (Int32.ofNat ng)), .val (.int (bi (q32 = true))), .val (.int (bi (q46 = true))), .val (.int (bi (q60 = true))), .val (.int (bi (q75 = true))), .val (.ref b1), .val (.int (bi (Emp (fun _ => false)))), .val (.int (bi (q151 = true))), .unset, .unset, .unset] [(.int (bi (q46 = true)))])
                    obtain ⟨q175, hq175⟩ : ∃ q : Bool, q = true ↔ ((q46 = true) ∧ (¬ (q75 = true) ∨ (¬ ((Int32.ofNat nb) = (Int32.ofNat ng))))) := ⟨decide ((q46 = true) ∧ (¬ (q75 = true) ∨ (¬ ((Int32.ofNat nb) = (Int32.ofNat ng))))), decide_eq_true_iff⟩
                    have j175 : Go p e s below 16 128 (fun v h L => v = some (.int (1 : Int32)) ∧ Fr n0 L) T149 (mkF m 195 #[.val (.int i0), .val (.int i1), .val (.int i2), .val (.int i3), .val (.int i4), .val (.int (Int32.ofNat na)), .val (.int (Int32.ofNat nb)), .val (.int (Int32.ofNat nc)), .val (.int (Int32.ofNat ng)), .val (.int (bi (q32 = true))), .val (.int (bi (q46 = true))), .val (.int (bi (q60 = true))), .val (.int (bi (q75 = true))), .val (.ref b1), .val (.int (bi (Emp (fun _ => false)))), .val (.int (bi (q151 = true))), .unset, .unset, .unset] [(.int (bi (q175 = true)))]) := by
                      refine Go.step (fun t k => XS.istore X149.here hx rfl (hb hby at_195) rfl (l' := #[.val (.int i0), .val (.int i1), .val (.int i2), .val (.int i3), .val (.int i4), .val (.int (Int32.ofNat na)), .val (.int (Int32.ofNat nb)), .val (.int (Int32.ofNat nc)), .val (.int (Int32.ofNat ng)), .val (.int (bi (q32 = true))), .val (.int (bi (q46 = true))), .val (.int (bi (q60 = true))), .val (.int (bi (q75 = true))), .val (.ref b1), .val (.int (bi (Emp (fun _ => false)))), .val (.int (bi (q151 = true))), .val (.int (bi (q175 = true))), .unset, .unset]) rfl k) ?_
                      show Go _ _ _ _ _ _ _ T149 (mkF m 197 #[.val (.int i0), .val (.int i1), .val (.int i2), .val (.int i3), .val (.int i4), .val (.int (Int32.ofNat na)), .val (.int (Int32.ofNat nb)), .val (.int (Int32.ofNat nc)), .val (.int (Int32.ofNat ng)), .val (.int (bi (q32 = true))), .val (.int (bi (q46 = true))), .val (.int (bi (q60 = true))), .val (.int (bi (q75 = true))), .val (.ref b1), .val (.int (bi (Emp (fun _ => false)))), .val (.int (bi (q151 = true))), .val (.int (bi (q175 = true))), .unset, .unset] [])
                      refine Go.step (fun t k => XS.iload X149.here hx rfl (hb hby at_197) rfl k) ?_
                      show Go _ _ _ _ _ _ _ T149 (mkF m 199 #[.val (.int i0), .val (.int i1), .val (.int i2), .val (.int i3), .val (.int i4), .val (.int (Int32.ofNat na)), .val (.int (Int32.ofNat nb)), .val (.int (Int32.ofNat nc)), .val (.int (Int32.ofNat ng)), .val (.int (bi (q32 = true))), .val (.int (bi (q46 = true))), .val (.int (bi (q60 = true))), .val (.int (bi (q75 = true))), .val (.ref b1), .val (.int (bi (Emp (fun _ => false)))), .val (.int (bi (q151 = true))), .val (.int (bi (q175 = true))), .unset, .unset] [(.int (bi (q60 = true)))])
                      obtain ⟨q199, hq199⟩ : ∃ q : Bool, q = true ↔ ((q60 = true) ∧ (¬ (q75 = true) ∨ (¬ ((Int32.ofNat nc) = (Int32.ofNat ng))))) := ⟨decide ((q60 = true) ∧ (¬ (q75 = true) ∨ (¬ ((Int32.ofNat nc) = (Int32.ofNat ng))))), decide_eq_true_iff⟩
                      have j199 : Go p e s below 16 128 (fun v h L => v = some (.int (1 : Int32)) ∧ Fr n0 L) T149 (mkF m 219 #[.val (.int i0), .val (.int i1), .val (.int i2), .val (.int i3), .val (.int i4), .val (.int (Int32.ofNat na)), .val (.int (Int32.ofNat nb)), .val (.int (Int32.ofNat nc)), .val (.int (Int32.ofNat ng)), .val (.int (bi (q32 = true))), .val (.int (bi (q46 = true))), .val (.int (bi (q60 = true))), .val (.int (bi (q75 = true))), .val (.ref b1), .val (.int (bi (Emp (fun _ => false)))), .val (.int (bi (q151 = true))), .val (.int (bi (q175 = true))), .unset, .unset] [(.int (bi (q199 = true)))]) := by
                        refine Go.step (fun t k => XS.istore X149.here hx rfl (hb hby at_219) rfl (l' := #[.val (.int i0), .val (.int i1), .val (.int i2), .val (.int i3), .val (.int i4), .val (.int (Int32.ofNat na)), .val (.int (Int32.ofNat nb)), .val (.int (Int32.ofNat nc)), .val (.int (Int32.ofNat ng)), .val (.int (bi (q32 = true))), .val (.int (bi (q46 = true))), .val (.int (bi (q60 = true))), .val (.int (bi (q75 = true))), .val (.ref b1), .val (.int (bi (Emp (fun _ => false)))), .val (.int (bi (q151 = true))), .val (.int (bi (q175 = true))), .val (.int (bi (q199 = true))), .unset]) rfl k) ?_
                        show Go _ _ _ _ _ _ _ T149 (mkF m 221 #[.val (.int i0), .val (.int i1), .val (.int i2), .val (.int i3), .val (.int i4), .val (.int (Int32.ofNat na)), .val (.int (Int32.ofNat nb)), .val (.int (Int32.ofNat nc)), .val (.int (Int32.ofNat ng)), .val (.int (bi (q32 = true))), .val (.int (bi (q46 = true))), .val (.int (bi (q60 = true))), .val (.int (bi (q75 = true))), .val (.ref b1), .val (.int (bi (Emp (fun _ => false)))), .val (.int (bi (q151 = true))), .val (.int (bi (q175 = true))), .val (.int (bi (q199 = true))), .unset] [])
                        refine Go.step (fun t k => XS.iload X149.here hx rfl (hb hby at_221) rfl k) ?_
                        show Go _ _ _ _ _ _ _ T149 (mkF m 223 #[.val (.int i0), .val (.int i1), .val (.int i2), .val (.int i3), .val (.int i4), .val (.int (Int32.ofNat na)), .val (.int (Int32.ofNat nb)), .val (.int (Int32.ofNat nc)), .val (.int (Int32.ofNat ng)), .val (.int (bi (q32 = true))), .val (.int (bi (q46 = true))), .val (.int (bi (q60 = true))), .val (.int (bi (q75 = true))), .val (.ref b1), .val (.int (bi (Emp (fun _ => false)))), .val (.int (bi (q151 = true))), .val (.int (bi (q175 = true))), .val (.int (bi (q199 = true))), .unset] [(.int (bi (q151 = true)))])
                        obtain ⟨q223, hq223⟩ : ∃ q : Bool, q = true ↔ (¬ (q151 = true) ∧ (¬ (q175 = true) ∧ (¬ (q199 = true)))) := ⟨decide (¬ (q151 = true) ∧ (¬ (q175 = true) ∧ (¬ (q199 = true)))), decide_eq_true_iff⟩
                        have j223 : Go p e s below 16 128 (fun v h L => v = some (.int (1 : Int32)) ∧ Fr n0 L) T149 (mkF m 241 #[.val (.int i0), .val (.int i1), .val (.int i2), .val (.int i3), .val (.int i4), .val (.int (Int32.ofNat na)), .val (.int (Int32.ofNat nb)), .val (.int (Int32.ofNat nc)), .val (.int (Int32.ofNat ng)), .val (.int (bi (q32 = true))), .val (.int (bi (q46 = true))), .val (.int (bi (q60 = true))), .val (.int (bi (q75 = true))), .val (.ref b1), .val (.int (bi (Emp (fun _ => false)))), .val (.int (bi (q151 = true))), .val (.int (bi (q175 = true))), .val (.int (bi (q199 = true))), .unset] [(.int (bi (q223 = true)))]) := by
                          refine Go.step (fun t k => XS.istore X149.here hx rfl (hb hby at_241) rfl (l' := #[.val (.int i0), .val (.int i1), .val (.int i2), .val (.int i3), .val (.int i4), .val (.int (Int32.ofNat na)), .val (.int (Int32.ofNat nb)), .val (.int (Int32.ofNat nc)), .val (.int (Int32.ofNat ng)), .val (.int (bi (q32 = true))), .val (.int (bi (q46 = true))), .val (.int (bi (q60 = true))), .val (.int (bi (q75 = true))), .val (.ref b1), .val (.int (bi (Emp (fun _ => false)))), .val (.int (bi (q151 = true))), .val (.int (bi (q175 = true))), .val (.int (bi (q199 = true))), .val (.int (bi (q223 = true)))]) rfl k) ?_
                          show Go _ _ _ _ _ _ _ T149 (mkF m 243 #[.val (.int i0), .val (.int i1), .val (.int i2), .val (.int i3), .val (.int i4), .val (.int (Int32.ofNat na)), .val (.int (Int32.ofNat nb)), .val (.int (Int32.ofNat nc)), .val (.int (Int32.ofNat ng)), .val (.int (bi (q32 = true))), .val (.int (bi (q46 = true))), .val (.int (bi (q60 = true))), .val (.int (bi (q75 = true))), .val (.ref b1), .val (.int (bi (Emp (fun _ => false)))), .val (.int (bi (q151 = true))), .val (.int (bi (q175 = true))), .val (.int (bi (q199 = true))), .val (.int (bi (q223 = true)))] [])
                          refine Go.step (fun t k => XS.iload X149.here hx rfl (hb hby at_243) rfl k) ?_
                          show Go _ _ _ _ _ _ _ T149 (mkF m 245 #[.val (.int i0), .val (.int i1), .val (.int i2), .val (.int i3), .val (.int i4), .val (.int (Int32.ofNat na)), .val (.int (Int32.ofNat nb)), .val (.int (Int32.ofNat nc)), .val (.int (Int32.ofNat ng)), .val (.int (bi (q32 = true))), .val (.int (bi (q46 = true))), .val (.int (bi (q60 = true))), .val (.int (bi (q75 = true))), .val (.ref b1), .val (.int (bi (Emp (fun _ => false)))), .val (.int (bi (q151 = true))), .val (.int (bi (q175 = true))), .val (.int (bi (q199 = true))), .val (.int (bi (q223 = true)))] [(.int (bi (Emp (fun _ => false))))])
                          refine Go.step (fun t k => XS.ifNo X149.here hx rfl (hb hby at_245) rfl ((if0 _ _).trans (feq (bi_n (fun i hi => rfl))).1) k) ?_
                          show Go _ _ _ _ _ _ _ T149 (mkF m 248 #[.val (.int i0), .val (.int i1), .val (.int i2), .val (.int i3), .val (.int i4), .val (.int (Int32.ofNat na)), .val (.int (Int32.ofNat nb)), .val (.int (Int32.ofNat nc)), .val (.int (Int32.ofNat ng)), .val (.int (bi (q32 = true))), .val (.int (bi (q46 = true))), .val (.int (bi (q60 = true))), .val (.int (bi (q75 = true))), .val (.ref b1), .val (.int (bi (Emp (fun _ => false)))), .val (.int (bi (q151 = true))), .val (.int (bi (q175 = true))), .val (.int (bi (q199 = true))), .val (.int (bi (q223 = true)))] [])
                          refine Go.step (fun t k => XS.aload X149.here hx rfl (hb hby at_248) rfl rfl k) ?_
                          show Go _ _ _ _ _ _ _ T149 (mkF m 250 #[.val (.int i0), .val (.int i1), .val (.int i2), .val (.int i3), .val (.int i4), .val (.int (Int32.ofNat na)), .val (.int (Int32.ofNat nb)), .val (.int (Int32.ofNat nc)), .val (.int (Int32.ofNat ng)), .val (.int (bi (q32 = true))), .val (.int (bi (q46 = true))), .val (.int (bi (q60 = true))), .val (.int (bi (q75 = true))), .val (.ref b1), .val (.int (bi (Emp (fun _ => false)))), .val (.int (bi (q151 = true))), .val (.int (bi (q175 = true))), .val (.int (bi (q199 = true))), .val (.int (bi (q223 = true)))] [(.ref b1)])
                          obtain ⟨v4, T4, L4, X4, q4, st4⟩ := c_virt X149 hx hZ hown (y' := (⟨"com/example/touchtree/touchtree/node/PointerSet", "isEmpty", "()Z"⟩ : MethodName)) (y := (⟨"com/example/touchtree/touchtree/node/PointerSet", "isEmpty", "()Z"⟩ : MethodName)) (C := "com/example/touchtree/touchtree/node/PointerSet") (hw _ (List.mem_of_getElem? (i := 9) rfl)) (hw _ (List.mem_of_getElem? (i := 10) rfl)) (notFace_of_selects (args := #[]) (mvT hZ (hw _ (List.mem_of_getElem? (i := 12) rfl)))) (hw _ (List.mem_of_getElem? (i := 12) rfl)) (hw _ (List.mem_of_getElem? (i := 11) rfl)) (hw _ (List.mem_of_getElem? (i := 2) rfl)) (hw _ (List.mem_of_getElem? (i := 13) rfl)) (by decide) (a := b1) (argsL := []) (rest := []) (rmE l Z a0 hw [] b1 0 v149_0 v149_1 v149_2 v149_3 (fun i => (((q32 && decide (i = na)) || (q46 && decide (i = nb))) || (q60 && decide (i = nc))) && !(q75 && decide (i = ng))) hh149 n0 Z149 (by decide) B149 f149_0 f149_1 f149_2 f149_3 f149_4) e149 f149_0 pd_1 rfl (by rw [hml]; rfl) (W := 0) (by show 2 * 0 + _ ≤ _; exact Nat.le_of_eq rfl) (by decide) (by decide) (by decide) (by decide) (hb hby at_250) (Ls := #[.val (.int i0), .val (.int i1), .val (.int i2), .val (.int i3), .val (.int i4), .val (.int (Int32.ofNat na)), .val (.int (Int32.ofNat nb)), .val (.int (Int32.ofNat nc)), .val (.int (Int32.ofNat ng)), .val (.int (bi (q32 = true))), .val (.int (bi (q46 = true))), .val (.int (bi (q60 = true))), .val (.int (bi (q75 = true))), .val (.ref b1), .val (.int (bi (Emp (fun _ => false)))), .val (.int (bi (q151 = true))), .val (.int (bi (q175 = true))), .val (.int (bi (q199 = true))), .val (.int (bi (q223 = true)))])
                          obtain ⟨rfl, rfl, e4⟩ := q4
                          have N4 := Fr.app N149 (Fr.nil n0)
                          refine Go.step (st4) ?_
                          show Go _ _ _ _ _ _ _ T4 (mkF m 253 #[.val (.int i0), .val (.int i1), .val (.int i2), .val (.int i3), .val (.int i4), .val (.int (Int32.ofNat na)), .val (.int (Int32.ofNat nb)), .val (.int (Int32.ofNat nc)), .val (.int (Int32.ofNat ng)), .val (.int (bi (q32 = true))), .val (.int (bi (q46 = true))), .val (.int (bi (q60 = true))), .val (.int (bi (q75 = true))), .val (.ref b1), .val (.int (bi (Emp (fun _ => false)))), .val (.int (bi (q151 = true))), .val (.int (bi (q175 = true))), .val (.int (bi (q199 = true))), .val (.int (bi (q223 = true)))] [(.int (bi (Emp (fun i => (((q32 && decide (i = na)) || (q46 && decide (i = nb))) || (q60 && decide (i = nc))) && !(q75 && decide (i = ng))))))])
                          refine Go.step (fun t k => XS.iload X4.here hx rfl (hb hby at_253) rfl k) ?_
                          show Go _ _ _ _ _ _ _ T4 (mkF m 255 #[.val (.int i0), .val (.int i1), .val (.int i2), .val (.int i3), .val (.int i4), .val (.int (Int32.ofNat na)), .val (.int (Int32.ofNat nb)), .val (.int (Int32.ofNat nc)), .val (.int (Int32.ofNat ng)), .val (.int (bi (q32 = true))), .val (.int (bi (q46 = true))), .val (.int (bi (q60 = true))), .val (.int (bi (q75 = true))), .val (.ref b1), .val (.int (bi (Emp (fun _ => false)))), .val (.int (bi (q151 = true))), .val (.int (bi (q175 = true))), .val (.int (bi (q199 = true))), .val (.int (bi (q223 = true)))] [(.int (bi (q223 = true))), (.int (bi (Emp (fun i => (((q32 && decide (i = na)) || (q46 && decide (i = nb))) || (q60 && decide (i = nc))) && !(q75 && decide (i = ng))))))])
                          refine Go.step (fun t k => XS.icmpNo X4.here hx rfl (hb hby at_255) rfl (teq (bi_congr (by rw [hq223, hq151, hq175, hq199, own_inj hna hng, own_inj hnb hng, own_inj hnc hng]; exact own_e _ _ _ _ _ _ _ _ hna hnb hnc))).2 k) ?_
                          show Go _ _ _ _ _ _ _ T4 (mkF m 258 #[.val (.int i0), .val (.int i1), .val (.int i2), .val (.int i3), .val (.int i4), .val (.int (Int32.ofNat na)), .val (.int (Int32.ofNat nb)), .val (.int (Int32.ofNat nc)), .val (.int (Int32.ofNat ng)), .val (.int (bi (q32 = true))), .val (.int (bi (q46 = true))), .val (.int (bi (q60 = true))), .val (.int (bi (q75 = true))), .val (.ref b1), .val (.int (bi (Emp (fun _ => false)))), .val (.int (bi (q151 = true))), .val (.int (bi (q175 = true))), .val (.int (bi (q199 = true))), .val (.int (bi (q223 = true)))] [])
                          refine Go.step (fun t k => XS.iconst X4.here hx rfl (hb hby at_258) k) ?_
                          show Go _ _ _ _ _ _ _ T4 (mkF m 259 #[.val (.int i0), .val (.int i1), .val (.int i2), .val (.int i3), .val (.int i4), .val (.int (Int32.ofNat na)), .val (.int (Int32.ofNat nb)), .val (.int (Int32.ofNat nc)), .val (.int (Int32.ofNat ng)), .val (.int (bi (q32 = true))), .val (.int (bi (q46 = true))), .val (.int (bi (q60 = true))), .val (.int (bi (q75 = true))), .val (.ref b1), .val (.int (bi (Emp (fun _ => false)))), .val (.int (bi (q151 = true))), .val (.int (bi (q175 = true))), .val (.int (bi (q199 = true))), .val (.int (bi (q223 = true)))] [(.int (1 : Int32))])
                          refine Go.step (fun t k => XS.goto X4.here hx rfl (pc0 := 259) (pc' := 263) rfl (hb hby at_259) (by decide) (by decide) k) ?_
                          show Go _ _ _ _ _ _ _ T4 (mkF m 263 #[.val (.int i0), .val (.int i1), .val (.int i2), .val (.int i3), .val (.int i4), .val (.int (Int32.ofNat na)), .val (.int (Int32.ofNat nb)), .val (.int (Int32.ofNat nc)), .val (.int (Int32.ofNat ng)), .val (.int (bi (q32 = true))), .val (.int (bi (q46 = true))), .val (.int (bi (q60 = true))), .val (.int (bi (q75 = true))), .val (.ref b1), .val (.int (bi (Emp (fun _ => false)))), .val (.int (bi (q151 = true))), .val (.int (bi (q175 = true))), .val (.int (bi (q199 = true))), .val (.int (bi (q223 = true)))] [(.int (1 : Int32))])
                          refine go_retN X4 hx (t := .boolean) hret (by simp) hlk (hb hby at_263) (w := (1 : Int32)) rfl ?_ (by decide) (by decide)
                          try rw [e4]
                          exact ⟨rfl, N4⟩
                        by_cases c223_5 : q151 = true
                        · refine Go.step (fun t k => XS.ifYes X149.here hx rfl (pc0 := 223) (pc' := 240) rfl (hb hby at_223) rfl ((if0 _ _).trans (feq (bi_n c223_5)).2) (by decide) (by decide) k) ?_
                          show Go _ _ _ _ _ _ _ T149 (mkF m 240 #[.val (.int i0), .val (.int i1), .val (.int i2), .val (.int i3), .val (.int i4), .val (.int (Int32.ofNat na)), .val (.int (Int32.ofNat nb)), .val (.int (Int32.ofNat nc)), .val (.int (Int32.ofNat ng)), .val (.int (bi (q32 = true))), .val (.int (bi (q46 = true))), .val (.int (bi (q60 = true))), .val (.int (bi (q75 = true))), .val (.ref b1), .val (.int (bi (Emp (fun _ => false)))), .val (.int (bi (q151 = true))), .val (.int (bi (q175 = true))), .val (.int (bi (q199 = true))), .unset] [])
                          refine Go.step (fun t k => XS.iconst X149.here hx rfl (hb hby at_240) k) ?_
                          show Go _ _ _ _ _ _ _ T149 (mkF m 241 #[.val (.int i0), .val (.int i1), .val (.int i2), .val (.int i3), .val (.int i4), .val (.int (Int32.ofNat na)), .val (.int (Int32.ofNat nb)), .val (.int (Int32.ofNat nc)), .val (.int (Int32.ofNat ng)), .val (.int (bi (q32 = true))), .val (.int (bi (q46 = true))), .val (.int (bi (q60 = true))), .val (.int (bi (q75 = true))), .val (.ref b1), .val (.int (bi (Emp (fun _ => false)))), .val (.int (bi (q151 = true))), .val (.int (bi (q175 = true))), .val (.int (bi (q199 = true))), .unset] [(.int (0 : Int32))])
                          rw [show (bi (q223 = true)) = (0 : Int32) from bi_f (mt hq223.mp (by simp only [eq_true c223_5, not_true_eq_false, not_false_eq_true, and_true, true_and, and_false, false_and, or_true, true_or, or_false, false_or, and_self, or_self]))] at j223
                          exact j223
                        · refine Go.step (fun t k => XS.ifNo X149.here hx rfl (hb hby at_223) rfl ((if0 _ _).trans (teq (bi_f c223_5)).2) k) ?_
                          show Go _ _ _ _ _ _ _ T149 (mkF m 226 #[.val (.int i0), .val (.int i1), .val (.int i2), .val (.int i3), .val (.int i4), .val (.int (Int32.ofNat na)), .val (.int (Int32.ofNat nb)), .val (.int (Int32.ofNat nc)), .val (.int (Int32.ofNat ng)), .val (.int (bi (q32 = true))), .val (.int (bi (q46 = true))), .val (.int (bi (q60 = true))), .val (.int (bi (q75 = true))), .val (.ref b1), .val (.int (bi (Emp (fun _ => false)))), .val (.int (bi (q151 = true))), .val (.int (bi (q175 = true))), .val (.int (bi (q199 = true))), .unset] [])
                          refine Go.step (fun t k => XS.iload X149.here hx rfl (hb hby at_226) rfl k) ?_
                          show Go _ _ _ _ _ _ _ T149 (mkF m 228 #[.val (.int i0), .val (.int i1), .val (.int i2), .val (.int i3), .val (.int i4), .val (.int (Int32.ofNat na)), .val (.int (Int32.ofNat nb)), .val (.int (Int32.ofNat nc)), .val (.int (Int32.ofNat ng)), .val (.int (bi (q32 = true))), .val (.int (bi (q46 = true))), .val (.int (bi (q60 = true))), .val (.int (bi (q75 = true))), .val (.ref b1), .val (.int (bi (Emp (fun _ => false)))), .val (.int (bi (q151 = true))), .val (.int (bi (q175 = true))), .val (.int (bi (q199 = true))), .unset] [(.int (bi (q175 = true)))])
                          by_cases c228_6 : q175 = true
                          · refine Go.step (fun t k => XS.ifYes X149.here hx rfl (pc0 := 228) (pc' := 240) rfl (hb hby at_228) rfl ((if0 _ _).trans (feq (bi_n c228_6)).2) (by decide) (by decide) k) ?_
                            show Go _ _ _ _ _ _ _ T149 (mkF m 240 #[.val (.int i0), .val (.int i1), .val (.int i2), .val (.int i3), .val (.int i4), .val (.int (Int32.ofNat na)), .val (.int (Int32.ofNat nb)), .val (.int (Int32.ofNat nc)), .val (.int (Int32.ofNat ng)), .val (.int (bi (q32 = true))), .val (.int (bi (q46 = true))), .val (.int (bi (q60 = true))), .val (.int (bi (q75 = true))), .val (.ref b1), .val (.int (bi (Emp (fun _ => false)))), .val (.int (bi (q151 = true))), .val (.int (bi (q175 = true))), .val (.int (bi (q199 = true))), .unset] [])
                            refine Go.step (fun t k => XS.iconst X149.here hx rfl (hb hby at_240) k) ?_
                            show Go _ _ _ _ _ _ _ T149 (mkF m 241 #[.val (.int i0), .val (.int i1), .val (.int i2), .val (.int i3), .val (.int i4), .val (.int (Int32.ofNat na)), .val (.int (Int32.ofNat nb)), .val (.int (Int32.ofNat nc)), .val (.int (Int32.ofNat ng)), .val (.int (bi (q32 = true))), .val (.int (bi (q46 = true))), .val (.int (bi (q60 = true))), .val (.int (bi (q75 = true))), .val (.ref b1), .val (.int (bi (Emp (fun _ => false)))), .val (.int (bi (q151 = true))), .val (.int (bi (q175 = true))), .val (.int (bi (q199 = true))), .unset] [(.int (0 : Int32))])
                            rw [show (bi (q223 = true)) = (0 : Int32) from bi_f (mt hq223.mp (by simp only [eq_false c223_5, eq_true c228_6, not_true_eq_false, not_false_eq_true, and_true, true_and, and_false, false_and, or_true, true_or, or_false, false_or, and_self, or_self]))] at j223
                            exact j223
                          · refine Go.step (fun t k => XS.ifNo X149.here hx rfl (hb hby at_228) rfl ((if0 _ _).trans (teq (bi_f c228_6)).2) k) ?_
                            show Go _ _ _ _ _ _ _ T149 (mkF m 231 #[.val (.int i0), .val (.int i1), .val (.int i2), .val (.int i3), .val (.int i4), .val (.int (Int32.ofNat na)), .val (.int (Int32.ofNat nb)), .val (.int (Int32.ofNat nc)), .val (.int (Int32.ofNat ng)), .val (.int (bi (q32 = true))), .val (.int (bi (q46 = true))), .val (.int (bi (q60 = true))), .val (.int (bi (q75 = true))), .val (.ref b1), .val (.int (bi (Emp (fun _ => false)))), .val (.int (bi (q151 = true))), .val (.int (bi (q175 = true))), .val (.int (bi (q199 = true))), .unset] [])
                            refine Go.step (fun t k => XS.iload X149.here hx rfl (hb hby at_231) rfl k) ?_
                            show Go _ _ _ _ _ _ _ T149 (mkF m 233 #[.val (.int i0), .val (.int i1), .val (.int i2), .val (.int i3), .val (.int i4), .val (.int (Int32.ofNat na)), .val (.int (Int32.ofNat nb)), .val (.int (Int32.ofNat nc)), .val (.int (Int32.ofNat ng)), .val (.int (bi (q32 = true))), .val (.int (bi (q46 = true))), .val (.int (bi (q60 = true))), .val (.int (bi (q75 = true))), .val (.ref b1), .val (.int (bi (Emp (fun _ => false)))), .val (.int (bi (q151 = true))), .val (.int (bi (q175 = true))), .val (.int (bi (q199 = true))), .unset] [(.int (bi (q199 = true)))])
                            by_cases c233_7 : q199 = true
                            · refine Go.step (fun t k => XS.ifYes X149.here hx rfl (pc0 := 233) (pc' := 240) rfl (hb hby at_233) rfl ((if0 _ _).trans (feq (bi_n c233_7)).2) (by decide) (by decide) k) ?_
                              show Go _ _ _ _ _ _ _ T149 (mkF m 240 #[.val (.int i0), .val (.int i1), .val (.int i2), .val (.int i3), .val (.int i4), .val (.int (Int32.ofNat na)), .val (.int (Int32.ofNat nb)), .val (.int (Int32.ofNat nc)), .val (.int (Int32.ofNat ng)), .val (.int (bi (q32 = true))), .val (.int (bi (q46 = true))), .val (.int (bi (q60 = true))), .val (.int (bi (q75 = true))), .val (.ref b1), .val (.int (bi (Emp (fun _ => false)))), .val (.int (bi (q151 = true))), .val (.int (bi (q175 = true))), .val (.int (bi (q199 = true))), .unset] [])
                              refine Go.step (fun t k => XS.iconst X149.here hx rfl (hb hby at_240) k) ?_
                              show Go _ _ _ _ _ _ _ T149 (mkF m 241 #[.val (.int i0), .val (.int i1), .val (.int i2), .val (.int i3), .val (.int i4), .val (.int (Int32.ofNat na)), .val (.int (Int32.ofNat nb)), .val (.int (Int32.ofNat nc)), .val (.int (Int32.ofNat ng)), .val (.int (bi (q32 = true))), .val (.int (bi (q46 = true))), .val (.int (bi (q60 = true))), .val (.int (bi (q75 = true))), .val (.ref b1), .val (.int (bi (Emp (fun _ => false)))), .val (.int (bi (q151 = true))), .val (.int (bi (q175 = true))), .val (.int (bi (q199 = true))), .unset] [(.int (0 : Int32))])
                              rw [show (bi (q223 = true)) = (0 : Int32) from bi_f (mt hq223.mp (by simp only [eq_false c223_5, eq_false c228_6, eq_true c233_7, not_true_eq_false, not_false_eq_true, and_true, true_and, and_false, false_and, or_true, true_or, or_false, false_or, and_self, or_self]))] at j223
                              exact j223
                            · refine Go.step (fun t k => XS.ifNo X149.here hx rfl (hb hby at_233) rfl ((if0 _ _).trans (teq (bi_f c233_7)).2) k) ?_
                              show Go _ _ _ _ _ _ _ T149 (mkF m 236 #[.val (.int i0), .val (.int i1), .val (.int i2), .val (.int i3), .val (.int i4), .val (.int (Int32.ofNat na)), .val (.int (Int32.ofNat nb)), .val (.int (Int32.ofNat nc)), .val (.int (Int32.ofNat ng)), .val (.int (bi (q32 = true))), .val (.int (bi (q46 = true))), .val (.int (bi (q60 = true))), .val (.int (bi (q75 = true))), .val (.ref b1), .val (.int (bi (Emp (fun _ => false)))), .val (.int (bi (q151 = true))), .val (.int (bi (q175 = true))), .val (.int (bi (q199 = true))), .unset] [])
                              refine Go.step (fun t k => XS.iconst X149.here hx rfl (hb hby at_236) k) ?_
                              show Go _ _ _ _ _ _ _ T149 (mkF m 237 #[.val (.int i0), .val (.int i1), .val (.int i2), .val (.int i3), .val (.int i4), .val (.int (Int32.ofNat na)), .val (.int (Int32.ofNat nb)), .val (.int (Int32.ofNat nc)), .val (.int (Int32.ofNat ng)), .val (.int (bi (q32 = true))), .val (.int (bi (q46 = true))), .val (.int (bi (q60 = true))), .val (.int (bi (q75 = true))), .val (.ref b1), .val (.int (bi (Emp (fun _ => false)))), .val (.int (bi (q151 = true))), .val (.int (bi (q175 = true))), .val (.int (bi (q199 = true))), .unset] [(.int (1 : Int32))])
                              refine Go.step (fun t k => XS.goto X149.here hx rfl (pc0 := 237) (pc' := 241) rfl (hb hby at_237) (by decide) (by decide) k) ?_
                              show Go _ _ _ _ _ _ _ T149 (mkF m 241 #[.val (.int i0), .val (.int i1), .val (.int i2), .val (.int i3), .val (.int i4), .val (.int (Int32.ofNat na)), .val (.int (Int32.ofNat nb)), .val (.int (Int32.ofNat nc)), .val (.int (Int32.ofNat ng)), .val (.int (bi (q32 = true))), .val (.int (bi (q46 = true))), .val (.int (bi (q60 = true))), .val (.int (bi (q75 = true))), .val (.ref b1), .val (.int (bi (Emp (fun _ => false)))), .val (.int (bi (q151 = true))), .val (.int (bi (q175 = true))), .val (.int (bi (q199 = true))), .unset] [(.int (1 : Int32))])
                              rw [show (bi (q223 = true)) = (1 : Int32) from bi_t (hq223.mpr (by simp only [eq_false c223_5, eq_false c228_6, eq_false c233_7, not_true_eq_false, not_false_eq_true, and_true, true_and, and_false, false_and, or_true, true_or, or_false, false_or, and_self, or_self]))] at j223
                              exact j223
                      by_cases c199_8 : q60 = true
                      · refine Go.step (fun t k => XS.ifNo X149.here hx rfl (hb hby at_199) rfl ((if0 _ _).trans (feq (bi_n c199_8)).1) k) ?_
                        show Go _ _ _ _ _ _ _ T149 (mkF m 202 #[.val (.int i0), .val (.int i1), .val (.int i2), .val (.int i3), .val (.int i4), .val (.int (Int32.ofNat na)), .val (.int (Int32.ofNat nb)), .val (.int (Int32.ofNat nc)), .val (.int (Int32.ofNat ng)), .val (.int (bi (q32 = true))), .val (.int (bi (q46 = true))), .val (.int (bi (q60 = true))), .val (.int (bi (q75 = true))), .val (.ref b1), .val (.int (bi (Emp (fun _ => false)))), .val (.int (bi (q151 = true))), .val (.int (bi (q175 = true))), .unset, .unset] [])
                        refine Go.step (fun t k => XS.iload X149.here hx rfl (hb hby at_202) rfl k) ?_
                        show Go _ _ _ _ _ _ _ T149 (mkF m 204 #[.val (.int i0), .val (.int i1), .val (.int i2), .val (.int i3), .val (.int i4), .val (.int (Int32.ofNat na)), .val (.int (Int32.ofNat nb)), .val (.int (Int32.ofNat nc)), .val (.int (Int32.ofNat ng)), .val (.int (bi (q32 = true))), .val (.int (bi (q46 = true))), .val (.int (bi (q60 = true))), .val (.int (bi (q75 = true))), .val (.ref b1), .val (.int (bi (Emp (fun _ => false)))), .val (.int (bi (q151 = true))), .val (.int (bi (q175 = true))), .unset, .unset] [(.int (bi (q75 = true)))])
                        by_cases c204_9 : q75 = true
                        · refine Go.step (fun t k => XS.ifNo X149.here hx rfl (hb hby at_204) rfl ((if0 _ _).trans (feq (bi_n c204_9)).1) k) ?_
                          show Go _ _ _ _ _ _ _ T149 (mkF m 207 #[.val (.int i0), .val (.int i1), .val (.int i2), .val (.int i3), .val (.int i4), .val (.int (Int32.ofNat na)), .val (.int (Int32.ofNat nb)), .val (.int (Int32.ofNat nc)), .val (.int (Int32.ofNat ng)), .val (.int (bi (q32 = true))), .val (.int (bi (q46 = true))), .val (.int (bi (q60 = true))), .val (.int (bi (q75 = true))), .val (.ref b1), .val (.int (bi (Emp (fun _ => false)))), .val (.int (bi (q151 = true))), .val (.int (bi (q175 = true))), .unset, .unset] [])
                          refine Go.step (fun t k => XS.iload X149.here hx rfl (hb hby at_207) rfl k) ?_
                          show Go _ _ _ _ _ _ _ T149 (mkF m 209 #[.val (.int i0), .val (.int i1), .val (.int i2), .val (.int i3), .val (.int i4), .val (.int (Int32.ofNat na)), .val (.int (Int32.ofNat nb)), .val (.int (Int32.ofNat nc)), .val (.int (Int32.ofNat ng)), .val (.int (bi (q32 = true))), .val (.int (bi (q46 = true))), .val (.int (bi (q60 = true))), .val (.int (bi (q75 = true))), .val (.ref b1), .val (.int (bi (Emp (fun _ => false)))), .val (.int (bi (q151 = true))), .val (.int (bi (q175 = true))), .unset, .unset] [(.int (Int32.ofNat nc))])
                          refine Go.step (fun t k => XS.iload X149.here hx rfl (hb hby at_209) rfl k) ?_
                          show Go _ _ _ _ _ _ _ T149 (mkF m 211 #[.val (.int i0), .val (.int i1), .val (.int i2), .val (.int i3), .val (.int i4), .val (.int (Int32.ofNat na)), .val (.int (Int32.ofNat nb)), .val (.int (Int32.ofNat nc)), .val (.int (Int32.ofNat ng)), .val (.int (bi (q32 = true))), .val (.int (bi (q46 = true))), .val (.int (bi (q60 = true))), .val (.int (bi (q75 = true))), .val (.ref b1), .val (.int (bi (Emp (fun _ => false)))), .val (.int (bi (q151 = true))), .val (.int (bi (q175 = true))), .unset, .unset] [(.int (Int32.ofNat ng)), (.int (Int32.ofNat nc))])
                          by_cases c211_10 : (Int32.ofNat nc) = (Int32.ofNat ng)
                          · refine Go.step (fun t k => XS.icmpYes X149.here hx rfl (pc0 := 211) (pc' := 218) rfl (hb hby at_211) rfl (teq c211_10).1 (by decide) (by decide) k) ?_
                            show Go _ _ _ _ _ _ _ T149 (mkF m 218 #[.val (.int i0), .val (.int i1), .val (.int i2), .val (.int i3), .val (.int i4), .val (.int (Int32.ofNat na)), .val (.int (Int32.ofNat nb)), .val (.int (Int32.ofNat nc)), .val (.int (Int32.ofNat ng)), .val (.int (bi (q32 = true))), .val (.int (bi (q46 = true))), .val (.int (bi (q60 = true))), .val (.int (bi (q75 = true))), .val (.ref b1), .val (.int (bi (Emp (fun _ => false)))), .val (.int (bi (q151 = true))), .val (.int (bi (q175 = true))), .unset, .unset] [])
                            refine Go.step (fun t k => XS.iconst X149.here hx rfl (hb hby at_218) k) ?_
                            show Go _ _ _ _ _ _ _ T149 (mkF m 219 #[.val (.int i0), .val (.int i1), .val (.int i2), .val (.int i3), .val (.int i4), .val (.int (Int32.ofNat na)), .val (.int (Int32.ofNat nb)), .val (.int (Int32.ofNat nc)), .val (.int (Int32.ofNat ng)), .val (.int (bi (q32 = true))), .val (.int (bi (q46 = true))), .val (.int (bi (q60 = true))), .val (.int (bi (q75 = true))), .val (.ref b1), .val (.int (bi (Emp (fun _ => false)))), .val (.int (bi (q151 = true))), .val (.int (bi (q175 = true))), .unset, .unset] [(.int (0 : Int32))])
                            rw [show (bi (q199 = true)) = (0 : Int32) from bi_f (mt hq199.mp (by simp only [eq_true c199_8, eq_true c204_9, eq_true c211_10, not_true_eq_false, not_false_eq_true, and_true, true_and, and_false, false_and, or_true, true_or, or_false, false_or, and_self, or_self]))] at j199
                            exact j199
                          · refine Go.step (fun t k => XS.icmpNo X149.here hx rfl (hb hby at_211) rfl (feq c211_10).1 k) ?_
                            show Go _ _ _ _ _ _ _ T149 (mkF m 214 #[.val (.int i0), .val (.int i1), .val (.int i2), .val (.int i3), .val (.int i4), .val (.int (Int32.ofNat na)), .val (.int (Int32.ofNat nb)), .val (.int (Int32.ofNat nc)), .val (.int (Int32.ofNat ng)), .val (.int (bi (q32 = true))), .val (.int (bi (q46 = true))), .val (.int (bi (q60 = true))), .val (.int (bi (q75 = true))), .val (.ref b1), .val (.int (bi (Emp (fun _ => false)))), .val (.int (bi (q151 = true))), .val (.int (bi (q175 = true))), .unset, .unset] [])
                            refine Go.step (fun t k => XS.iconst X149.here hx rfl (hb hby at_214) k) ?_
                            show Go _ _ _ _ _ _ _ T149 (mkF m 215 #[.val (.int i0), .val (.int i1), .val (.int i2), .val (.int i3), .val (.int i4), .val (.int (Int32.ofNat na)), .val (.int (Int32.ofNat nb)), .val (.int (Int32.ofNat nc)), .val (.int (Int32.ofNat ng)), .val (.int (bi (q32 = true))), .val (.int (bi (q46 = true))), .val (.int (bi (q60 = true))), .val (.int (bi (q75 = true))), .val (.ref b1), .val (.int (bi (Emp (fun _ => false)))), .val (.int (bi (q151 = true))), .val (.int (bi (q175 = true))), .unset, .unset] [(.int (1 : Int32))])
                            refine Go.step (fun t k => XS.goto X149.here hx rfl (pc0 := 215) (pc' := 219) rfl (hb hby at_215) (by decide) (by decide) k) ?_
                            show Go _ _ _ _ _ _ _ T149 (mkF m 219 #[.val (.int i0), .val (.int i1), .val (.int i2), .val (.int i3), .val (.int i4), .val (.int (Int32.ofNat na)), .val (.int (Int32.ofNat nb)), .val (.int (Int32.ofNat nc)), .val (.int (Int32.ofNat ng)), .val (.int (bi (q32 = true))), .val (.int (bi (q46 = true))), .val (.int (bi (q60 = true))), .val (.int (bi (q75 = true))), .val (.ref b1), .val (.int (bi (Emp (fun _ => false)))), .val (.int (bi (q151 = true))), .val (.int (bi (q175 = true))), .unset, .unset] [(.int (1 : Int32))])
                            rw [show (bi (q199 = true)) = (1 : Int32) from bi_t (hq199.mpr (by simp only [eq_true c199_8, eq_true c204_9, eq_false c211_10, not_true_eq_false, not_false_eq_true, and_true, true_and, and_false, false_and, or_true, true_or, or_false, false_or, and_self, or_self]))] at j199
                            exact j199
                        · refine Go.step (fun t k => XS.ifYes X149.here hx rfl (pc0 := 204) (pc' := 214) rfl (hb hby at_204) rfl ((if0 _ _).trans (teq (bi_f c204_9)).1) (by decide) (by decide) k) ?_
                          show Go _ _ _ _ _ _ _ T149 (mkF m 214 #[.val (.int i0), .val (.int i1), .val (.int i2), .val (.int i3), .val (.int i4), .val (.int (Int32.ofNat na)), .val (.int (Int32.ofNat nb)), .val (.int (Int32.ofNat nc)), .val (.int (Int32.ofNat ng)), .val (.int (bi (q32 = true))), .val (.int (bi (q46 = true))), .val (.int (bi (q60 = true))), .val (.int (bi (q75 = true))), .val (.ref b1), .val (.int (bi (Emp (fun _ => false)))), .val (.int (bi (q151 = true))), .val (.int (bi (q175 = true))), .unset, .unset] [])
                          refine Go.step (fun t k => XS.iconst X149.here hx rfl (hb hby at_214) k) ?_
                          show Go _ _ _ _ _ _ _ T149 (mkF m 215 #[.val (.int i0), .val (.int i1), .val (.int i2), .val (.int i3), .val (.int i4), .val (.int (Int32.ofNat na)), .val (.int (Int32.ofNat nb)), .val (.int (Int32.ofNat nc)), .val (.int (Int32.ofNat ng)), .val (.int (bi (q32 = true))), .val (.int (bi (q46 = true))), .val (.int (bi (q60 = true))), .val (.int (bi (q75 = true))), .val (.ref b1), .val (.int (bi (Emp (fun _ => false)))), .val (.int (bi (q151 = true))), .val (.int (bi (q175 = true))), .unset, .unset] [(.int (1 : Int32))])
                          refine Go.step (fun t k => XS.goto X149.here hx rfl (pc0 := 215) (pc' := 219) rfl (hb hby at_215) (by decide) (by decide) k) ?_
                          show Go _ _ _ _ _ _ _ T149 (mkF m 219 #[.val (.int i0), .val (.int i1), .val (.int i2), .val (.int i3), .val (.int i4), .val (.int (Int32.ofNat na)), .val (.int (Int32.ofNat nb)), .val (.int (Int32.ofNat nc)), .val (.int (Int32.ofNat ng)), .val (.int (bi (q32 = true))), .val (.int (bi (q46 = true))), .val (.int (bi (q60 = true))), .val (.int (bi (q75 = true))), .val (.ref b1), .val (.int (bi (Emp (fun _ => false)))), .val (.int (bi (q151 = true))), .val (.int (bi (q175 = true))), .unset, .unset] [(.int (1 : Int32))])
                          rw [show (bi (q199 = true)) = (1 : Int32) from bi_t (hq199.mpr (by simp only [eq_true c199_8, eq_false c204_9, not_true_eq_false, not_false_eq_true, and_true, true_and, and_false, false_and, or_true, true_or, or_false, false_or, and_self, or_self]))] at j199
                          exact j199
                      · refine Go.step (fun t k => XS.ifYes X149.here hx rfl (pc0 := 199) (pc' := 218) rfl (hb hby at_199) rfl ((if0 _ _).trans (teq (bi_f c199_8)).1) (by decide) (by decide) k) ?_
                        show Go _ _ _ _ _ _ _ T149 (mkF m 218 #[.val (.int i0), .val (.int i1), .val (.int i2), .val (.int i3), .val (.int i4), .val (.int (Int32.ofNat na)), .val (.int (Int32.ofNat nb)), .val (.int (Int32.ofNat nc)), .val (.int (Int32.ofNat ng)), .val (.int (bi (q32 = true))), .val (.int (bi (q46 = true))), .val (.int (bi (q60 = true))), .val (.int (bi (q75 = true))), .val (.ref b1), .val (.int (bi (Emp (fun _ => false)))), .val (.int (bi (q151 = true))), .val (.int (bi (q175 = true))), .unset, .unset] [])
                        refine Go.step (fun t k => XS.iconst X149.here hx rfl (hb hby at_218) k) ?_
                        show Go _ _ _ _ _ _ _ T149 (mkF m 219 #[.val (.int i0), .val (.int i1), .val (.int i2), .val (.int i3), .val (.int i4), .val (.int (Int32.ofNat na)), .val (.int (Int32.ofNat nb)), .val (.int (Int32.ofNat nc)), .val (.int (Int32.ofNat ng)), .val (.int (bi (q32 = true))), .val (.int (bi (q46 = true))), .val (.int (bi (q60 = true))), .val (.int (bi (q75 = true))), .val (.ref b1), .val (.int (bi (Emp (fun _ => false)))), .val (.int (bi (q151 = true))), .val (.int (bi (q175 = true))), .unset, .unset] [(.int (0 : Int32))])
                        rw [show (bi (q199 = true)) = (0 : Int32) from bi_f (mt hq199.mp (by simp only [eq_false c199_8, not_true_eq_false, not_false_eq_true, and_true, true_and, and_false, false_and, or_true, true_or, or_false, false_or, and_self, or_self]))] at j199
                        exact j199
                    by_cases c175_11 : q46 = true
                    · refine Go.step (fun t k => XS.ifNo X149.here hx rfl (hb hby at_175) rfl ((if0 _ _).trans (feq (bi_n c175_11)).1) k) ?_
                      show Go _ _ _ _ _ _ _ T149 (mkF m 178 #[.val (.int i0), .val (.int i1), .val (.int i2), .val (.int i3), .val (.int i4), .val (.int (Int32.ofNat na)), .val (.int (Int32.ofNat nb)), .val (.int (Int32.ofNat nc)), .val (.int (Int32.ofNat ng)), .val (.int (bi (q32 = true))), .val (.int (bi (q46 = true))), .val (.int (bi (q60 = true))), .val (.int (bi (q75 = true))), .val (.ref b1), .val (.int (bi (Emp (fun _ => false)))), .val (.int (bi (q151 = true))), .unset, .unset, .unset] [])
                      refine Go.step (fun t k => XS.iload X149.here hx rfl (hb hby at_178) rfl k) ?_
                      show Go _ _ _ _ _ _ _ T149 (mkF m 180 #[.val (.int i0), .val (.int i1), .val (.int i2), .val (.int i3), .val (.int i4), .val (.int (Int32.ofNat na)), .val (.int (Int32.ofNat nb)), .val (.int (Int32.ofNat nc)), .val (.int (Int32.ofNat ng)), .val (.int (bi (q32 = true))), .val (.int (bi (q46 = true))), .val (.int (bi (q60 = true))), .val (.int (bi (q75 = true))), .val (.ref b1), .val (.int (bi (Emp (fun _ => false)))), .val (.int (bi (q151 = true))), .unset, .unset, .unset] [(.int (bi (q75 = true)))])
                      by_cases c180_12 : q75 = true
                      · refine Go.step (fun t k => XS.ifNo X149.here hx rfl (hb hby at_180) rfl ((if0 _ _).trans (feq (bi_n c180_12)).1) k) ?_
                        show Go _ _ _ _ _ _ _ T149 (mkF m 183 #[.val (.int i0), .val (.int i1), .val (.int i2), .val (.int i3), .val (.int i4), .val (.int (Int32.ofNat na)), .val (.int (Int32.ofNat nb)), .val (.int (Int32.ofNat nc)), .val (.int (Int32.ofNat ng)), .val (.int (bi (q32 = true))), .val (.int (bi (q46 = true))), .val (.int (bi (q60 = true))), .val (.int (bi (q75 = true))), .val (.ref b1), .val (.int (bi (Emp (fun _ => false)))), .val (.int (bi (q151 = true))), .unset, .unset, .unset] [])
                        refine Go.step (fun t k => XS.iload X149.here hx rfl (hb hby at_183) rfl k) ?_
                        show Go _ _ _ _ _ _ _ T149 (mkF m 185 #[.val (.int i0), .val (.int i1), .val (.int i2), .val (.int i3), .val (.int i4), .val (.int (Int32.ofNat na)), .val (.int (Int32.ofNat nb)), .val (.int (Int32.ofNat nc)), .val (.int (Int32.ofNat ng)), .val (.int (bi (q32 = true))), .val (.int (bi (q46 = true))), .val (.int (bi (q60 = true))), .val (.int (bi (q75 = true))), .val (.ref b1), .val (.int (bi (Emp (fun _ => false)))), .val (.int (bi (q151 = true))), .unset, .unset, .unset] [(.int (Int32.ofNat nb))])
                        refine Go.step (fun t k => XS.iload X149.here hx rfl (hb hby at_185) rfl k) ?_
                        show Go _ _ _ _ _ _ _ T149 (mkF m 187 #[.val (.int i0), .val (.int i1), .val (.int i2), .val (.int i3), .val (.int i4), .val (.int (Int32.ofNat na)), .val (.int (Int32.ofNat nb)), .val (.int (Int32.ofNat nc)), .val (.int (Int32.ofNat ng)), .val (.int (bi (q32 = true))), .val (.int (bi (q46 = true))), .val (.int (bi (q60 = true))), .val (.int (bi (q75 = true))), .val (.ref b1), .val (.int (bi (Emp (fun _ => false)))), .val (.int (bi (q151 = true))), .unset, .unset, .unset] [(.int (Int32.ofNat ng)), (.int (Int32.ofNat nb))])
                        by_cases c187_13 : (Int32.ofNat nb) = (Int32.ofNat ng)
                        · refine Go.step (fun t k => XS.icmpYes X149.here hx rfl (pc0 := 187) (pc' := 194) rfl (hb hby at_187) rfl (teq c187_13).1 (by decide) (by decide) k) ?_
                          show Go _ _ _ _ _ _ _ T149 (mkF m 194 #[.val (.int i0), .val (.int i1), .val (.int i2), .val (.int i3), .val (.int i4), .val (.int (Int32.ofNat na)), .val (.int (Int32.ofNat nb)), .val (.int (Int32.ofNat nc)), .val (.int (Int32.ofNat ng)), .val (.int (bi (q32 = true))), .val (.int (bi (q46 = true))), .val (.int (bi (q60 = true))), .val (.int (bi (q75 = true))), .val (.ref b1), .val (.int (bi (Emp (fun _ => false)))), .val (.int (bi (q151 = true))), .unset, .unset, .unset] [])
                          refine Go.step (fun t k => XS.iconst X149.here hx rfl (hb hby at_194) k) ?_
                          show Go _ _ _ _ _ _ _ T149 (mkF m 195 #[.val (.int i0), .val (.int i1), .val (.int i2), .val (.int i3), .val (.int i4), .val (.int (Int32.ofNat na)), .val (.int (Int32.ofNat nb)), .val (.int (Int32.ofNat nc)), .val (.int (Int32.ofNat ng)), .val (.int (bi (q32 = true))), .val (.int (bi (q46 = true))), .val (.int (bi (q60 = true))), .val (.int (bi (q75 = true))), .val (.ref b1), .val (.int (bi (Emp (fun _ => false)))), .val (.int (bi (q151 = true))), .unset, .unset, .unset] [(.int (0 : Int32))])
                          rw [show (bi (q175 = true)) = (0 : Int32) from bi_f (mt hq175.mp (by simp only [eq_true c175_11, eq_true c180_12, eq_true c187_13, not_true_eq_false, not_false_eq_true, and_true, true_and, and_false, false_and, or_true, true_or, or_false, false_or, and_self, or_self]))] at j175
                          exact j175
                        · refine Go.step (fun t k => XS.icmpNo X149.here hx rfl (hb hby at_187) rfl (feq c187_13).1 k) ?_
                          show Go _ _ _ _ _ _ _ T149 (mkF m 190 #[.val (.int i0), .val (.int i1), .val (.int i2), .val (.int i3), .val (.int i4), .val (.int (Int32.ofNat na)), .val (.int (Int32.ofNat nb)), .val (.int (Int32.ofNat nc)), .val (.int (Int32.ofNat ng)), .val (.int (bi (q32 = true))), .val (.int (bi (q46 = true))), .val (.int (bi (q60 = true))), .val (.int (bi (q75 = true))), .val (.ref b1), .val (.int (bi (Emp (fun _ => false)))), .val (.int (bi (q151 = true))), .unset, .unset, .unset] [])
                          refine Go.step (fun t k => XS.iconst X149.here hx rfl (hb hby at_190) k) ?_
                          show Go _ _ _ _ _ _ _ T149 (mkF m 191 #[.val (.int i0), .val (.int i1), .val (.int i2), .val (.int i3), .val (.int i4), .val (.int (Int32.ofNat na)), .val (.int (Int32.ofNat nb)), .val (.int (Int32.ofNat nc)), .val (.int (Int32.ofNat ng)), .val (.int (bi (q32 = true))), .val (.int (bi (q46 = true))), .val (.int (bi (q60 = true))), .val (.int (bi (q75 = true))), .val (.ref b1), .val (.int (bi (Emp (fun _ => false)))), .val (.int (bi (q151 = true))), .unset, .unset, .unset] [(.int (1 : Int32))])
                          refine Go.step (fun t k => XS.goto X149.here hx rfl (pc0 := 191) (pc' := 195) rfl (hb hby at_191) (by decide) (by decide) k) ?_
                          show Go _ _ _ _ _ _ _ T149 (mkF m 195 #[.val (.int i0), .val (.int i1), .val (.int i2), .val (.int i3), .val (.int i4), .val (.int (Int32.ofNat na)), .val (.int (Int32.ofNat nb)), .val (.int (Int32.ofNat nc)), .val (.int (Int32.ofNat ng)), .val (.int (bi (q32 = true))), .val (.int (bi (q46 = true))), .val (.int (bi (q60 = true))), .val (.int (bi (q75 = true))), .val (.ref b1), .val (.int (bi (Emp (fun _ => false)))), .val (.int (bi (q151 = true))), .unset, .unset, .unset] [(.int (1 : Int32))])
                          rw [show (bi (q175 = true)) = (1 : Int32) from bi_t (hq175.mpr (by simp only [eq_true c175_11, eq_true c180_12, eq_false c187_13, not_true_eq_false, not_false_eq_true, and_true, true_and, and_false, false_and, or_true, true_or, or_false, false_or, and_self, or_self]))] at j175
                          exact j175
                      · refine Go.step (fun t k => XS.ifYes X149.here hx rfl (pc0 := 180) (pc' := 190) rfl (hb hby at_180) rfl ((if0 _ _).trans (teq (bi_f c180_12)).1) (by decide) (by decide) k) ?_
                        show Go _ _ _ _ _ _ _ T149 (mkF m 190 #[.val (.int i0), .val (.int i1), .val (.int i2), .val (.int i3), .val (.int i4), .val (.int (Int32.ofNat na)), .val (.int (Int32.ofNat nb)), .val (.int (Int32.ofNat nc)), .val (.int (Int32.ofNat ng)), .val (.int (bi (q32 = true))), .val (.int (bi (q46 = true))), .val (.int (bi (q60 = true))), .val (.int (bi (q75 = true))), .val (.ref b1), .val (.int (bi (Emp (fun _ => false)))), .val (.int (bi (q151 = true))), .unset, .unset, .unset] [])
                        refine Go.step (fun t k => XS.iconst X149.here hx rfl (hb hby at_190) k) ?_
                        show Go _ _ _ _ _ _ _ T149 (mkF m 191 #[.val (.int i0), .val (.int i1), .val (.int i2), .val (.int i3), .val (.int i4), .val (.int (Int32.ofNat na)), .val (.int (Int32.ofNat nb)), .val (.int (Int32.ofNat nc)), .val (.int (Int32.ofNat ng)), .val (.int (bi (q32 = true))), .val (.int (bi (q46 = true))), .val (.int (bi (q60 = true))), .val (.int (bi (q75 = true))), .val (.ref b1), .val (.int (bi (Emp (fun _ => false)))), .val (.int (bi (q151 = true))), .unset, .unset, .unset] [(.int (1 : Int32))])
                        refine Go.step (fun t k => XS.goto X149.here hx rfl (pc0 := 191) (pc' := 195) rfl (hb hby at_191) (by decide) (by decide) k) ?_
                        show Go _ _ _ _ _ _ _ T149 (mkF m 195 #[.val (.int i0), .val (.int i1), .val (.int i2), .val (.int i3), .val (.int i4), .val (.int (Int32.ofNat na)), .val (.int (Int32.ofNat nb)), .val (.int (Int32.ofNat nc)), .val (.int (Int32.ofNat ng)), .val (.int (bi (q32 = true))), .val (.int (bi (q46 = true))), .val (.int (bi (q60 = true))), .val (.int (bi (q75 = true))), .val (.ref b1), .val (.int (bi (Emp (fun _ => false)))), .val (.int (bi (q151 = true))), .unset, .unset, .unset] [(.int (1 : Int32))])
                        rw [show (bi (q175 = true)) = (1 : Int32) from bi_t (hq175.mpr (by simp only [eq_true c175_11, eq_false c180_12, not_true_eq_false, not_false_eq_true, and_true, true_and, and_false, false_and, or_true, true_or, or_false, false_or, and_self, or_self]))] at j175
                        exact j175
                    · refine Go.step (fun t k => XS.ifYes X149.here hx rfl (pc0 := 175) (pc' := 194) rfl (hb hby at_175) rfl ((if0 _ _).trans (teq (bi_f c175_11)).1) (by decide) (by decide) k) ?_
                      show Go _ _ _ _ _ _ _ T149 (mkF m 194 #[.val (.int i0), .val (.int i1), .val (.int i2), .val (.int i3), .val (.int i4), .val (.int (Int32.ofNat na)), .val (.int (Int32.ofNat nb)), .val (.int (Int32.ofNat nc)), .val (.int (Int32.ofNat ng)), .val (.int (bi (q32 = true))), .val (.int (bi (q46 = true))), .val (.int (bi (q60 = true))), .val (.int (bi (q75 = true))), .val (.ref b1), .val (.int (bi (Emp (fun _ => false)))), .val (.int (bi (q151 = true))), .unset, .unset, .unset] [])
                      refine Go.step (fun t k => XS.iconst X149.here hx rfl (hb hby at_194) k) ?_
                      show Go _ _ _ _ _ _ _ T149 (mkF m 195 #[.val (.int i0), .val (.int i1), .val (.int i2), .val (.int i3), .val (.int i4), .val (.int (Int32.ofNat na)), .val (.int (Int32.ofNat nb)), .val (.int (Int32.ofNat nc)), .val (.int (Int32.ofNat ng)), .val (.int (bi (q32 = true))), .val (.int (bi (q46 = true))), .val (.int (bi (q60 = true))), .val (.int (bi (q75 = true))), .val (.ref b1), .val (.int (bi (Emp (fun _ => false)))), .val (.int (bi (q151 = true))), .unset, .unset, .unset] [(.int (0 : Int32))])
                      rw [show (bi (q175 = true)) = (0 : Int32) from bi_f (mt hq175.mp (by simp only [eq_false c175_11, not_true_eq_false, not_false_eq_true, and_true, true_and, and_false, false_and, or_true, true_or, or_false, false_or, and_self, or_self]))] at j175
                      exact j175
                  by_cases c151_14 : q32 = true
                  · refine Go.step (fun t k => XS.ifNo X149.here hx rfl (hb hby at_151) rfl ((if0 _ _).trans (feq (bi_n c151_14)).1) k) ?_
                    show Go _ _ _ _ _ _ _ T149 (mkF m 154 #[.val (.int i0), .val (.int i1), .val (.int i2), .val (.int i3), .val (.int i4), .val (.int (Int32.ofNat na)), .val (.int (Int32.ofNat nb)), .val (.int (Int32.ofNat nc)), .val (.int (Int32.ofNat ng)), .val (.int (bi (q32 = true))), .val (.int (bi (q46 = true))), .val (.int (bi (q60 = true))), .val (.int (bi (q75 = true))), .val (.ref b1), .val (.int (bi (Emp (fun _ => false)))), .unset, .unset, .unset, .unset] [])
                    refine Go.step (fun t k => XS.iload X149.here hx rfl (hb hby at_154) rfl k) ?_
                    show Go _ _ _ _ _ _ _ T149 (mkF m 156 #[.val (.int i0), .val (.int i1), .val (.int i2), .val (.int i3), .val (.int i4), .val (.int (Int32.ofNat na)), .val (.int (Int32.ofNat nb)), .val (.int (Int32.ofNat nc)), .val (.int (Int32.ofNat ng)), .val (.int (bi (q32 = true))), .val (.int (bi (q46 = true))), .val (.int (bi (q60 = true))), .val (.int (bi (q75 = true))), .val (.ref b1), .val (.int (bi (Emp (fun _ => false)))), .unset, .unset, .unset, .unset] [(.int (bi (q75 = true)))])
                    by_cases c156_15 : q75 = true
                    · refine Go.step (fun t k => XS.ifNo X149.here hx rfl (hb hby at_156) rfl ((if0 _ _).trans (feq (bi_n c156_15)).1) k) ?_
                      show Go _ _ _ _ _ _ _ T149 (mkF m 159 #[.val (.int i0), .val (.int i1), .val (.int i2), .val (.int i3), .val (.int i4), .val (.int (Int32.ofNat na)), .val (.int (Int32.ofNat nb)), .val (.int (Int32.ofNat nc)), .val (.int (Int32.ofNat ng)), .val (.int (bi (q32 = true))), .val (.int (bi (q46 = true))), .val (.int (bi (q60 = true))), .val (.int (bi (q75 = true))), .val (.ref b1), .val (.int (bi (Emp (fun _ => false)))), .unset, .unset, .unset, .unset] [])
                      refine Go.step (fun t k => XS.iload X149.here hx rfl (hb hby at_159) rfl k) ?_
                      show Go _ _ _ _ _ _ _ T149 (mkF m 161 #[.val (.int i0), .val (.int i1), .val (.int i2), .val (.int i3), .val (.int i4), .val (.int (Int32.ofNat na)), .val (.int (Int32.ofNat nb)), .val (.int (Int32.ofNat nc)), .val (.int (Int32.ofNat ng)), .val (.int (bi (q32 = true))), .val (.int (bi (q46 = true))), .val (.int (bi (q60 = true))), .val (.int (bi (q75 = true))), .val (.ref b1), .val (.int (bi (Emp (fun _ => false)))), .unset, .unset, .unset, .unset] [(.int (Int32.ofNat na))])
                      refine Go.step (fun t k => XS.iload X149.here hx rfl (hb hby at_161) rfl k) ?_
                      show Go _ _ _ _ _ _ _ T149 (mkF m 163 #[.val (.int i0), .val (.int i1), .val (.int i2), .val (.int i3), .val (.int i4), .val (.int (Int32.ofNat na)), .val (.int (Int32.ofNat nb)), .val (.int (Int32.ofNat nc)), .val (.int (Int32.ofNat ng)), .val (.int (bi (q32 = true))), .val (.int (bi (q46 = true))), .val (.int (bi (q60 = true))), .val (.int (bi (q75 = true))), .val (.ref b1), .val (.int (bi (Emp (fun _ => false)))), .unset, .unset, .unset, .unset] [(.int (Int32.ofNat ng)), (.int (Int32.ofNat na))])
                      by_cases c163_16 : (Int32.ofNat na) = (Int32.ofNat ng)
                      · refine Go.step (fun t k => XS.icmpYes X149.here hx rfl (pc0 := 163) (pc' := 170) rfl (hb hby at_163) rfl (teq c163_16).1 (by decide) (by decide) k) ?_
                        show Go _ _ _ _ _ _ _ T149 (mkF m 170 #[.val (.int i0), .val (.int i1), .val (.int i2), .val (.int i3), .val (.int i4), .val (.int (Int32.ofNat na)), .val (.int (Int32.ofNat nb)), .val (.int (Int32.ofNat nc)), .val (.int (Int32.ofNat ng)), .val (.int (bi (q32 = true))), .val (.int (bi (q46 = true))), .val (.int (bi (q60 = true))), .val (.int (bi (q75 = true))), .val (.ref b1), .val (.int (bi (Emp (fun _ => false)))), .unset, .unset, .unset, .unset] [])
                        refine Go.step (fun t k => XS.iconst X149.here hx rfl (hb hby at_170) k) ?_
                        show Go _ _ _ _ _ _ _ T149 (mkF m 171 #[.val (.int i0), .val (.int i1), .val (.int i2), .val (.int i3), .val (.int i4), .val (.int (Int32.ofNat na)), .val (.int (Int32.ofNat nb)), .val (.int (Int32.ofNat nc)), .val (.int (Int32.ofNat ng)), .val (.int (bi (q32 = true))), .val (.int (bi (q46 = true))), .val (.int (bi (q60 = true))), .val (.int (bi (q75 = true))), .val (.ref b1), .val (.int (bi (Emp (fun _ => false)))), .unset, .unset, .unset, .unset] [(.int (0 : Int32))])
                        rw [show (bi (q151 = true)) = (0 : Int32) from bi_f (mt hq151.mp (by simp only [eq_true c151_14, eq_true c156_15, eq_true c163_16, not_true_eq_false, not_false_eq_true, and_true, true_and, and_false, false_and, or_true, true_or, or_false, false_or, and_self, or_self]))] at j151
                        exact j151
                      · refine Go.step (fun t k => XS.icmpNo X149.here hx rfl (hb hby at_163) rfl (feq c163_16).1 k) ?_
                        show Go _ _ _ _ _ _ _ T149 (mkF m 166 #[.val (.int i0), .val (.int i1), .val (.int i2), .val (.int i3), .val (.int i4), .val (.int (Int32.ofNat na)), .val (.int (Int32.ofNat nb)), .val (.int (Int32.ofNat nc)), .val (.int (Int32.ofNat ng)), .val (.int (bi (q32 = true))), .val (.int (bi (q46 = true))), .val (.int (bi (q60 = true))), .val (.int (bi (q75 = true))), .val (.ref b1), .val (.int (bi (Emp (fun _ => false)))), .unset, .unset, .unset, .unset] [])
                        refine Go.step (fun t k => XS.iconst X149.here hx rfl (hb hby at_166) k) ?_
                        show Go _ _ _ _ _ _ _ T149 (mkF m 167 #[.val (.int i0), .val (.int i1), .val (.int i2), .val (.int i3), .val (.int i4), .val (.int (Int32.ofNat na)), .val (.int (Int32.ofNat nb)), .val (.int (Int32.ofNat nc)), .val (.int (Int32.ofNat ng)), .val (.int (bi (q32 = true))), .val (.int (bi (q46 = true))), .val (.int (bi (q60 = true))), .val (.int (bi (q75 = true))), .val (.ref b1), .val (.int (bi (Emp (fun _ => false)))), .unset, .unset, .unset, .unset] [(.int (1 : Int32))])
                        refine Go.step (fun t k => XS.goto X149.here hx rfl (pc0 := 167) (pc' := 171) rfl (hb hby at_167) (by decide) (by decide) k) ?_
                        show Go _ _ _ _ _ _ _ T149 (mkF m 171 #[.val (.int i0), .val (.int i1), .val (.int i2), .val (.int i3), .val (.int i4), .val (.int (Int32.ofNat na)), .val (.int (Int32.ofNat nb)), .val (.int (Int32.ofNat nc)), .val (.int (Int32.ofNat ng)), .val (.int (bi (q32 = true))), .val (.int (bi (q46 = true))), .val (.int (bi (q60 = true))), .val (.int (bi (q75 = true))), .val (.ref b1), .val (.int (bi (Emp (fun _ => false)))), .unset, .unset, .unset, .unset] [(.int (1 : Int32))])
                        rw [show (bi (q151 = true)) = (1 : Int32) from bi_t (hq151.mpr (by simp only [eq_true c151_14, eq_true c156_15, eq_false c163_16, not_true_eq_false, not_false_eq_true, and_true, true_and, and_false, false_and, or_true, true_or, or_false, false_or, and_self, or_self]))] at j151
                        exact j151
                    · refine Go.step (fun t k => XS.ifYes X149.here hx rfl (pc0 := 156) (pc' := 166) rfl (hb hby at_156) rfl ((if0 _ _).trans (teq (bi_f c156_15)).1) (by decide) (by decide) k) ?_
                      show Go _ _ _ _ _ _ _ T149 (mkF m 166 #[.val (.int i0), .val (.int i1), .val (.int i2), .val (.int i3), .val (.int i4), .val (.int (Int32.ofNat na)), .val (.int (Int32.ofNat nb)), .val (.int (Int32.ofNat nc)), .val (.int (Int32.ofNat ng)), .val (.int (bi (q32 = true))), .val (.int (bi (q46 = true))), .val (.int (bi (q60 = true))), .val (.int (bi (q75 = true))), .val (.ref b1), .val (.int (bi (Emp (fun _ => false)))), .unset, .unset, .unset, .unset] [])
                      refine Go.step (fun t k => XS.iconst X149.here hx rfl (hb hby at_166) k) ?_
                      show Go _ _ _ _ _ _ _ T149 (mkF m 167 #[.val (.int i0), .val (.int i1), .val (.int i2), .val (.int i3), .val (.int i4), .val (.int (Int32.ofNat na)), .val (.int (Int32.ofNat nb)), .val (.int (Int32.ofNat nc)), .val (.int (Int32.ofNat ng)), .val (.int (bi (q32 = true))), .val (.int (bi (q46 = true))), .val (.int (bi (q60 = true))), .val (.int (bi (q75 = true))), .val (.ref b1), .val (.int (bi (Emp (fun _ => false)))), .unset, .unset, .unset, .unset] [(.int (1 : Int32))])
                      refine Go.step (fun t k => XS.goto X149.here hx rfl (pc0 := 167) (pc' := 171) rfl (hb hby at_167) (by decide) (by decide) k) ?_
                      show Go _ _ _ _ _ _ _ T149 (mkF m 171 #[.val (.int i0), .val (.int i1), .val (.int i2), .val (.int i3), .val (.int i4), .val (.int (Int32.ofNat na)), .val (.int (Int32.ofNat nb)), .val (.int (Int32.ofNat nc)), .val (.int (Int32.ofNat ng)), .val (.int (bi (q32 = true))), .val (.int (bi (q46 = true))), .val (.int (bi (q60 = true))), .val (.int (bi (q75 = true))), .val (.ref b1), .val (.int (bi (Emp (fun _ => false)))), .unset, .unset, .unset, .unset] [(.int (1 : Int32))])
                      rw [show (bi (q151 = true)) = (1 : Int32) from bi_t (hq151.mpr (by simp only [eq_true c151_14, eq_false c156_15, not_true_eq_false, not_false_eq_true, and_true, true_and, and_false, false_and, or_true, true_or, or_false, false_or, and_self, or_self]))] at j151
                      exact j151
                  · refine Go.step (fun t k => XS.ifYes X149.here hx rfl (pc0 := 151) (pc' := 170) rfl (hb hby at_151) rfl ((if0 _ _).trans (teq (bi_f c151_14)).1) (by decide) (by decide) k) ?_
                    show Go _ _ _ _ _ _ _ T149 (mkF m 170 #[.val (.int i0), .val (.int i1), .val (.int i2), .val (.int i3), .val (.int i4), .val (.int (Int32.ofNat na)), .val (.int (Int32.ofNat nb)), .val (.int (Int32.ofNat nc)), .val (.int (Int32.ofNat ng)), .val (.int (bi (q32 = true))), .val (.int (bi (q46 = true))), .val (.int (bi (q60 = true))), .val (.int (bi (q75 = true))), .val (.ref b1), .val (.int (bi (Emp (fun _ => false)))), .unset, .unset, .unset, .unset] [])
                    refine Go.step (fun t k => XS.iconst X149.here hx rfl (hb hby at_170) k) ?_
                    show Go _ _ _ _ _ _ _ T149 (mkF m 171 #[.val (.int i0), .val (.int i1), .val (.int i2), .val (.int i3), .val (.int i4), .val (.int (Int32.ofNat na)), .val (.int (Int32.ofNat nb)), .val (.int (Int32.ofNat nc)), .val (.int (Int32.ofNat ng)), .val (.int (bi (q32 = true))), .val (.int (bi (q46 = true))), .val (.int (bi (q60 = true))), .val (.int (bi (q75 = true))), .val (.ref b1), .val (.int (bi (Emp (fun _ => false)))), .unset, .unset, .unset, .unset] [(.int (0 : Int32))])
                    rw [show (bi (q151 = true)) = (0 : Int32) from bi_f (mt hq151.mp (by simp only [eq_false c151_14, not_true_eq_false, not_false_eq_true, and_true, true_and, and_false, false_and, or_true, true_or, or_false, false_or, and_self, or_self]))] at j151
                    exact j151
                by_cases c139_17 : q75 = true
                · refine Go.step (fun t k => XS.ifNo X137.here hx rfl (hb hby at_139) rfl ((if0 _ _).trans (feq (bi_n c139_17)).1) k) ?_
                  show Go _ _ _ _ _ _ _ T137 (mkF m 142 #[.val (.int i0), .val (.int i1), .val (.int i2), .val (.int i3), .val (.int i4), .val (.int (Int32.ofNat na)), .val (.int (Int32.ofNat nb)), .val (.int (Int32.ofNat nc)), .val (.int (Int32.ofNat ng)), .val (.int (bi (q32 = true))), .val (.int (bi (q46 = true))), .val (.int (bi (q60 = true))), .val (.int (bi (q75 = true))), .val (.ref b1), .val (.int (bi (Emp (fun _ => false)))), .unset, .unset, .unset, .unset] [])
                  refine Go.step (fun t k => XS.aload X137.here hx rfl (hb hby at_142) rfl rfl k) ?_
                  show Go _ _ _ _ _ _ _ T137 (mkF m 144 #[.val (.int i0), .val (.int i1), .val (.int i2), .val (.int i3), .val (.int i4), .val (.int (Int32.ofNat na)), .val (.int (Int32.ofNat nb)), .val (.int (Int32.ofNat nc)), .val (.int (Int32.ofNat ng)), .val (.int (bi (q32 = true))), .val (.int (bi (q46 = true))), .val (.int (bi (q60 = true))), .val (.int (bi (q75 = true))), .val (.ref b1), .val (.int (bi (Emp (fun _ => false)))), .unset, .unset, .unset, .unset] [(.ref b1)])
                  refine Go.step (fun t k => XS.iload X137.here hx rfl (hb hby at_144) rfl k) ?_
                  show Go _ _ _ _ _ _ _ T137 (mkF m 146 #[.val (.int i0), .val (.int i1), .val (.int i2), .val (.int i3), .val (.int i4), .val (.int (Int32.ofNat na)), .val (.int (Int32.ofNat nb)), .val (.int (Int32.ofNat nc)), .val (.int (Int32.ofNat ng)), .val (.int (bi (q32 = true))), .val (.int (bi (q46 = true))), .val (.int (bi (q60 = true))), .val (.int (bi (q75 = true))), .val (.ref b1), .val (.int (bi (Emp (fun _ => false)))), .unset, .unset, .unset, .unset] [(.int (Int32.ofNat ng)), (.ref b1)])
                  obtain ⟨v18, T18, L18, X18, q18, st18⟩ := c_virt X137 hx hZ hown (y' := (⟨"com/example/touchtree/touchtree/node/PointerSet", "remove", "(I)V"⟩ : MethodName)) (y := (⟨"com/example/touchtree/touchtree/node/PointerSet", "remove", "(I)V"⟩ : MethodName)) (C := "com/example/touchtree/touchtree/node/PointerSet") (hw _ (List.mem_of_getElem? (i := 27) rfl)) (hw _ (List.mem_of_getElem? (i := 28) rfl)) (notFace_of_selects (args := #[]) (mvT hZ (hw _ (List.mem_of_getElem? (i := 30) rfl)))) (hw _ (List.mem_of_getElem? (i := 30) rfl)) (hw _ (List.mem_of_getElem? (i := 29) rfl)) (hw _ (List.mem_of_getElem? (i := 2) rfl)) (hw _ (List.mem_of_getElem? (i := 31) rfl)) (by decide) (a := b1) (argsL := [(.int (Int32.ofNat ng))]) (rest := []) (rmR l Z a0 hw [] b1 ng v137_0 v137_1 v137_2 v137_3 (fun i => ((q32 && decide (i = na)) || (q46 && decide (i = nb))) || (q60 && decide (i = nc))) hh137 n0 Z137 hng B137 f137_0 f137_1 f137_2 f137_3 f137_4 gn_b1) e137 f137_0 pd_2 rfl (by rw [hml]; rfl) (W := 0) (by show 2 * 0 + _ ≤ _; exact Nat.le_of_eq rfl) (by decide) (by decide) (by decide) (by decide) (hb hby at_146) (Ls := #[.val (.int i0), .val (.int i1), .val (.int i2), .val (.int i3), .val (.int i4), .val (.int (Int32.ofNat na)), .val (.int (Int32.ofNat nb)), .val (.int (Int32.ofNat nc)), .val (.int (Int32.ofNat ng)), .val (.int (bi (q32 = true))), .val (.int (bi (q46 = true))), .val (.int (bi (q60 = true))), .val (.int (bi (q75 = true))), .val (.ref b1), .val (.int (bi (Emp (fun _ => false)))), .unset, .unset, .unset, .unset])
                  generalize e18 : T18.heap = h18 at q18
                  obtain ⟨rfl, N18q, K18q, E18q, y180, y181, y182, y183, F18q0, F18q1, F18q2, F18q3, B18⟩ := q18
                  have N18 := Fr.app N137 N18q
                  have Z18 : n0 ≤ h18.size := Nat.le_trans Z137 K18q.1
                  refine Go.step (st18) ?_
                  show Go _ _ _ _ _ _ _ T18 (mkF m 149 #[.val (.int i0), .val (.int i1), .val (.int i2), .val (.int i3), .val (.int i4), .val (.int (Int32.ofNat na)), .val (.int (Int32.ofNat nb)), .val (.int (Int32.ofNat nc)), .val (.int (Int32.ofNat ng)), .val (.int (bi (q32 = true))), .val (.int (bi (q46 = true))), .val (.int (bi (q60 = true))), .val (.int (bi (q75 = true))), .val (.ref b1), .val (.int (bi (Emp (fun _ => false)))), .unset, .unset, .unset, .unset] [])
                  exact k149 _ _ _ _ _ _ _ (X18.more (by decide) (by decide)) e18 N18 Z18 E18q F18q0 F18q1 F18q2 F18q3 (Bits.congr B18 (fun i => by simp [c139_17]))
                · refine Go.step (fun t k => XS.ifYes X137.here hx rfl (pc0 := 139) (pc' := 149) rfl (hb hby at_139) rfl ((if0 _ _).trans (teq (bi_f c139_17)).1) (by decide) (by decide) k) ?_
                  show Go _ _ _ _ _ _ _ T137 (mkF m 149 #[.val (.int i0), .val (.int i1), .val (.int i2), .val (.int i3), .val (.int i4), .val (.int (Int32.ofNat na)), .val (.int (Int32.ofNat nb)), .val (.int (Int32.ofNat nc)), .val (.int (Int32.ofNat ng)), .val (.int (bi (q32 = true))), .val (.int (bi (q46 = true))), .val (.int (bi (q60 = true))), .val (.int (bi (q75 = true))), .val (.ref b1), .val (.int (bi (Emp (fun _ => false)))), .unset, .unset, .unset, .unset] [])
                  exact k149 _ _ _ _ _ _ _ (X137.more (by decide) (by decide)) e137 N137 Z137 f137_0 f137_1 f137_2 f137_3 f137_4 (Bits.congr B137 (fun i => by simp [c139_17]))
              by_cases c127_19 : q60 = true
              · refine Go.step (fun t k => XS.ifNo X125.here hx rfl (hb hby at_127) rfl ((if0 _ _).trans (feq (bi_n c127_19)).1) k) ?_
                show Go _ _ _ _ _ _ _ T125 (mkF m 130 #[.val (.int i0), .val (.int i1), .val (.int i2), .val (.int i3), .val (.int i4), .val (.int (Int32.ofNat na)), .val (.int (Int32.ofNat nb)), .val (.int (Int32.ofNat nc)), .val (.int (Int32.ofNat ng)), .val (.int (bi (q32 = true))), .val (.int (bi (q46 = true))), .val (.int (bi (q60 = true))), .val (.int (bi (q75 = true))), .val (.ref b1), .val (.int (bi (Emp (fun _ => false)))), .unset, .unset, .unset, .unset] [])
                refine Go.step (fun t k => XS.aload X125.here hx rfl (hb hby at_130) rfl rfl k) ?_
                show Go _ _ _ _ _ _ _ T125 (mkF m 132 #[.val (.int i0), .val (.int i1), .val (.int i2), .val (.int i3), .val (.int i4), .val (.int (Int32.ofNat na)), .val (.int (Int32.ofNat nb)), .val (.int (Int32.ofNat nc)), .val (.int (Int32.ofNat ng)), .val (.int (bi (q32 = true))), .val (.int (bi (q46 = true))), .val (.int (bi (q60 = true))), .val (.int (bi (q75 = true))), .val (.ref b1), .val (.int (bi (Emp (fun _ => false)))), .unset, .unset, .unset, .unset] [(.ref b1)])
                refine Go.step (fun t k => XS.iload X125.here hx rfl (hb hby at_132) rfl k) ?_
                show Go _ _ _ _ _ _ _ T125 (mkF m 134 #[.val (.int i0), .val (.int i1), .val (.int i2), .val (.int i3), .val (.int i4), .val (.int (Int32.ofNat na)), .val (.int (Int32.ofNat nb)), .val (.int (Int32.ofNat nc)), .val (.int (Int32.ofNat ng)), .val (.int (bi (q32 = true))), .val (.int (bi (q46 = true))), .val (.int (bi (q60 = true))), .val (.int (bi (q75 = true))), .val (.ref b1), .val (.int (bi (Emp (fun _ => false)))), .unset, .unset, .unset, .unset] [(.int (Int32.ofNat nc)), (.ref b1)])
                obtain ⟨v20, T20, L20, X20, q20, st20⟩ := c_virt X125 hx hZ hown (y' := (⟨"com/example/touchtree/touchtree/node/PointerSet", "add", "(I)V"⟩ : MethodName)) (y := (⟨"com/example/touchtree/touchtree/node/PointerSet", "add", "(I)V"⟩ : MethodName)) (C := "com/example/touchtree/touchtree/node/PointerSet") (hw _ (List.mem_of_getElem? (i := 22) rfl)) (hw _ (List.mem_of_getElem? (i := 23) rfl)) (notFace_of_selects (args := #[]) (mvT hZ (hw _ (List.mem_of_getElem? (i := 25) rfl)))) (hw _ (List.mem_of_getElem? (i := 25) rfl)) (hw _ (List.mem_of_getElem? (i := 24) rfl)) (hw _ (List.mem_of_getElem? (i := 2) rfl)) (hw _ (List.mem_of_getElem? (i := 26) rfl)) (by decide) (a := b1) (argsL := [(.int (Int32.ofNat nc))]) (rest := []) (rmA l Z a0 hw [] b1 nc v125_0 v125_1 v125_2 v125_3 (fun i => (q32 && decide (i = na)) || (q46 && decide (i = nb))) hh125 n0 Z125 hnc B125 f125_0 f125_1 f125_2 f125_3 f125_4 gn_b1) e125 f125_0 pd_2 rfl (by rw [hml]; rfl) (W := 0) (by show 2 * 0 + _ ≤ _; exact Nat.le_of_eq rfl) (by decide) (by decide) (by decide) (by decide) (hb hby at_134) (Ls := #[.val (.int i0), .val (.int i1), .val (.int i2), .val (.int i3), .val (.int i4), .val (.int (Int32.ofNat na)), .val (.int (Int32.ofNat nb)), .val (.int (Int32.ofNat nc)), .val (.int (Int32.ofNat ng)), .val (.int (bi (q32 = true))), .val (.int (bi (q46 = true))), .val (.int (bi (q60 = true))), .val (.int (bi (q75 = true))), .val (.ref b1), .val (.int (bi (Emp (fun _ => false)))), .unset, .unset, .unset, .unset])
                generalize e20 : T20.heap = h20 at q20
                obtain ⟨rfl, N20q, K20q, E20q, y200, y201, y202, y203, F20q0, F20q1, F20q2, F20q3, B20⟩ := q20
                have N20 := Fr.app N125 N20q
                have Z20 : n0 ≤ h20.size := Nat.le_trans Z125 K20q.1
                refine Go.step (st20) ?_
                show Go _ _ _ _ _ _ _ T20 (mkF m 137 #[.val (.int i0), .val (.int i1), .val (.int i2), .val (.int i3), .val (.int i4), .val (.int (Int32.ofNat na)), .val (.int (Int32.ofNat nb)), .val (.int (Int32.ofNat nc)), .val (.int (Int32.ofNat ng)), .val (.int (bi (q32 = true))), .val (.int (bi (q46 = true))), .val (.int (bi (q60 = true))), .val (.int (bi (q75 = true))), .val (.ref b1), .val (.int (bi (Emp (fun _ => false)))), .unset, .unset, .unset, .unset] [])
                exact k137 _ _ _ _ _ _ _ (X20.more (by decide) (by decide)) e20 N20 Z20 E20q F20q0 F20q1 F20q2 F20q3 (Bits.congr B20 (fun i => by simp [c127_19]))
              · refine Go.step (fun t k => XS.ifYes X125.here hx rfl (pc0 := 127) (pc' := 137) rfl (hb hby at_127) rfl ((if0 _ _).trans (teq (bi_f c127_19)).1) (by decide) (by decide) k) ?_
                show Go _ _ _ _ _ _ _ T125 (mkF m 137 #[.val (.int i0), .val (.int i1), .val (.int i2), .val (.int i3), .val (.int i4), .val (.int (Int32.ofNat na)), .val (.int (Int32.ofNat nb)), .val (.int (Int32.ofNat nc)), .val (.int (Int32.ofNat ng)), .val (.int (bi (q32 = true))), .val (.int (bi (q46 = true))), .val (.int (bi (q60 = true))), .val (.int (bi (q75 = true))), .val (.ref b1), .val (.int (bi (Emp (fun _ => false)))), .unset, .unset, .unset, .unset] [])
                exact k137 _ _ _ _ _ _ _ (X125.more (by decide) (by decide)) e125 N125 Z125 f125_0 f125_1 f125_2 f125_3 f125_4 (Bits.congr B125 (fun i => by simp [c127_19]))
            by_cases c115_21 : q46 = true
            · refine Go.step (fun t k => XS.ifNo X113.here hx rfl (hb hby at_115) rfl ((if0 _ _).trans (feq (bi_n c115_21)).1) k) ?_
              show Go _ _ _ _ _ _ _ T113 (mkF m 118 #[.val (.int i0), .val (.int i1), .val (.int i2), .val (.int i3), .val (.int i4), .val (.int (Int32.ofNat na)), .val (.int (Int32.ofNat nb)), .val (.int (Int32.ofNat nc)), .val (.int (Int32.ofNat ng)), .val (.int (bi (q32 = true))), .val (.int (bi (q46 = true))), .val (.int (bi (q60 = true))), .val (.int (bi (q75 = true))), .val (.ref b1), .val (.int (bi (Emp (fun _ => false)))), .unset, .unset, .unset, .unset] [])
              refine Go.step (fun t k => XS.aload X113.here hx rfl (hb hby at_118) rfl rfl k) ?_
              show Go _ _ _ _ _ _ _ T113 (mkF m 120 #[.val (.int i0), .val (.int i1), .val (.int i2), .val (.int i3), .val (.int i4), .val (.int (Int32.ofNat na)), .val (.int (Int32.ofNat nb)), .val (.int (Int32.ofNat nc)), .val (.int (Int32.ofNat ng)), .val (.int (bi (q32 = true))), .val (.int (bi (q46 = true))), .val (.int (bi (q60 = true))), .val (.int (bi (q75 = true))), .val (.ref b1), .val (.int (bi (Emp (fun _ => false)))), .unset, .unset, .unset, .unset] [(.ref b1)])
              refine Go.step (fun t k => XS.iload X113.here hx rfl (hb hby at_120) rfl k) ?_
              show Go _ _ _ _ _ _ _ T113 (mkF m 122 #[.val (.int i0), .val (.int i1), .val (.int i2), .val (.int i3), .val (.int i4), .val (.int (Int32.ofNat na)), .val (.int (Int32.ofNat nb)), .val (.int (Int32.ofNat nc)), .val (.int (Int32.ofNat ng)), .val (.int (bi (q32 = true))), .val (.int (bi (q46 = true))), .val (.int (bi (q60 = true))), .val (.int (bi (q75 = true))), .val (.ref b1), .val (.int (bi (Emp (fun _ => false)))), .unset, .unset, .unset, .unset] [(.int (Int32.ofNat nb)), (.ref b1)])
              obtain ⟨v22, T22, L22, X22, q22, st22⟩ := c_virt X113 hx hZ hown (y' := (⟨"com/example/touchtree/touchtree/node/PointerSet", "add", "(I)V"⟩ : MethodName)) (y := (⟨"com/example/touchtree/touchtree/node/PointerSet", "add", "(I)V"⟩ : MethodName)) (C := "com/example/touchtree/touchtree/node/PointerSet") (hw _ (List.mem_of_getElem? (i := 22) rfl)) (hw _ (List.mem_of_getElem? (i := 23) rfl)) (notFace_of_selects (args := #[]) (mvT hZ (hw _ (List.mem_of_getElem? (i := 25) rfl)))) (hw _ (List.mem_of_getElem? (i := 25) rfl)) (hw _ (List.mem_of_getElem? (i := 24) rfl)) (hw _ (List.mem_of_getElem? (i := 2) rfl)) (hw _ (List.mem_of_getElem? (i := 26) rfl)) (by decide) (a := b1) (argsL := [(.int (Int32.ofNat nb))]) (rest := []) (rmA l Z a0 hw [] b1 nb v113_0 v113_1 v113_2 v113_3 (fun i => (q32 && decide (i = na))) hh113 n0 Z113 hnb B113 f113_0 f113_1 f113_2 f113_3 f113_4 gn_b1) e113 f113_0 pd_2 rfl (by rw [hml]; rfl) (W := 0) (by show 2 * 0 + _ ≤ _; exact Nat.le_of_eq rfl) (by decide) (by decide) (by decide) (by decide) (hb hby at_122) (Ls := #[.val (.int i0), .val (.int i1), .val (.int i2), .val (.int i3), .val (.int i4), .val (.int (Int32.ofNat na)), .val (.int (Int32.ofNat nb)), .val (.int (Int32.ofNat nc)), .val (.int (Int32.ofNat ng)), .val (.int (bi (q32 = true))), .val (.int (bi (q46 = true))), .val (.int (bi (q60 = true))), .val (.int (bi (q75 = true))), .val (.ref b1), .val (.int (bi (Emp (fun _ => false)))), .unset, .unset, .unset, .unset])
              generalize e22 : T22.heap = h22 at q22
              obtain ⟨rfl, N22q, K22q, E22q, y220, y221, y222, y223, F22q0, F22q1, F22q2, F22q3, B22⟩ := q22
              have N22 := Fr.app N113 N22q
              have Z22 : n0 ≤ h22.size := Nat.le_trans Z113 K22q.1
              refine Go.step (st22) ?_
              show Go _ _ _ _ _ _ _ T22 (mkF m 125 #[.val (.int i0), .val (.int i1), .val (.int i2), .val (.int i3), .val (.int i4), .val (.int (Int32.ofNat na)), .val (.int (Int32.ofNat nb)), .val (.int (Int32.ofNat nc)), .val (.int (Int32.ofNat ng)), .val (.int (bi (q32 = true))), .val (.int (bi (q46 = true))), .val (.int (bi (q60 = true))), .val (.int (bi (q75 = true))), .val (.ref b1), .val (.int (bi (Emp (fun _ => false)))), .unset, .unset, .unset, .unset] [])
              exact k125 _ _ _ _ _ _ _ (X22.more (by decide) (by decide)) e22 N22 Z22 E22q F22q0 F22q1 F22q2 F22q3 (Bits.congr B22 (fun i => by simp [c115_21]))
            · refine Go.step (fun t k => XS.ifYes X113.here hx rfl (pc0 := 115) (pc' := 125) rfl (hb hby at_115) rfl ((if0 _ _).trans (teq (bi_f c115_21)).1) (by decide) (by decide) k) ?_
              show Go _ _ _ _ _ _ _ T113 (mkF m 125 #[.val (.int i0), .val (.int i1), .val (.int i2), .val (.int i3), .val (.int i4), .val (.int (Int32.ofNat na)), .val (.int (Int32.ofNat nb)), .val (.int (Int32.ofNat nc)), .val (.int (Int32.ofNat ng)), .val (.int (bi (q32 = true))), .val (.int (bi (q46 = true))), .val (.int (bi (q60 = true))), .val (.int (bi (q75 = true))), .val (.ref b1), .val (.int (bi (Emp (fun _ => false)))), .unset, .unset, .unset, .unset] [])
              exact k125 _ _ _ _ _ _ _ (X113.more (by decide) (by decide)) e113 N113 Z113 f113_0 f113_1 f113_2 f113_3 f113_4 (Bits.congr B113 (fun i => by simp [c115_21]))
          by_cases c103_23 : q32 = true
          · refine Go.step (fun t k => XS.ifNo X3.here hx rfl (hb hby at_103) rfl ((if0 _ _).trans (feq (bi_n c103_23)).1) k) ?_
            show Go _ _ _ _ _ _ _ T3 (mkF m 106 #[.val (.int i0), .val (.int i1), .val (.int i2), .val (.int i3), .val (.int i4), .val (.int (Int32.ofNat na)), .val (.int (Int32.ofNat nb)), .val (.int (Int32.ofNat nc)), .val (.int (Int32.ofNat ng)), .val (.int (bi (q32 = true))), .val (.int (bi (q46 = true))), .val (.int (bi (q60 = true))), .val (.int (bi (q75 = true))), .val (.ref b1), .val (.int (bi (Emp (fun _ => false)))), .unset, .unset, .unset, .unset] [])
            refine Go.step (fun t k => XS.aload X3.here hx rfl (hb hby at_106) rfl rfl k) ?_
            show Go _ _ _ _ _ _ _ T3 (mkF m 108 #[.val (.int i0), .val (.int i1), .val (.int i2), .val (.int i3), .val (.int i4), .val (.int (Int32.ofNat na)), .val (.int (Int32.ofNat nb)), .val (.int (Int32.ofNat nc)), .val (.int (Int32.ofNat ng)), .val (.int (bi (q32 = true))), .val (.int (bi (q46 = true))), .val (.int (bi (q60 = true))), .val (.int (bi (q75 = true))), .val (.ref b1), .val (.int (bi (Emp (fun _ => false)))), .unset, .unset, .unset, .unset] [(.ref b1)])
            refine Go.step (fun t k => XS.iload X3.here hx rfl (hb hby at_108) rfl k) ?_
            show Go _ _ _ _ _ _ _ T3 (mkF m 110 #[.val (.int i0), .val (.int i1), .val (.int i2), .val (.int i3), .val (.int i4), .val (.int (Int32.ofNat na)), .val (.int (Int32.ofNat nb)), .val (.int (Int32.ofNat nc)), .val (.int (Int32.ofNat ng)), .val (.int (bi (q32 = true))), .val (.int (bi (q46 = true))), .val (.int (bi (q60 = true))), .val (.int (bi (q75 = true))), .val (.ref b1), .val (.int (bi (Emp (fun _ => false)))), .unset, .unset, .unset, .unset] [(.int (Int32.ofNat na)), (.ref b1)])
            obtain ⟨v24, T24, L24, X24, q24, st24⟩ := c_virt X3 hx hZ hown (y' := (⟨"com/example/touchtree/touchtree/node/PointerSet", "add", "(I)V"⟩ : MethodName)) (y := (⟨"com/example/touchtree/touchtree/node/PointerSet", "add", "(I)V"⟩ : MethodName)) (C := "com/example/touchtree/touchtree/node/PointerSet") (hw _ (List.mem_of_getElem? (i := 22) rfl)) (hw _ (List.mem_of_getElem? (i := 23) rfl)) (notFace_of_selects (args := #[]) (mvT hZ (hw _ (List.mem_of_getElem? (i := 25) rfl)))) (hw _ (List.mem_of_getElem? (i := 25) rfl)) (hw _ (List.mem_of_getElem? (i := 24) rfl)) (hw _ (List.mem_of_getElem? (i := 2) rfl)) (hw _ (List.mem_of_getElem? (i := 26) rfl)) (by decide) (a := b1) (argsL := [(.int (Int32.ofNat na))]) (rest := []) (rmA l Z a0 hw [] b1 na (0 : Int64) (0 : Int64) (0 : Int64) (0 : Int64) (fun _ => false) h1 n0 Z1 hna Bits.zero A1 F1_bits0 F1_bits1 F1_bits2 F1_bits3 gn_b1) e3 A1 pd_2 rfl (by rw [hml]; rfl) (W := 0) (by show 2 * 0 + _ ≤ _; exact Nat.le_of_eq rfl) (by decide) (by decide) (by decide) (by decide) (hb hby at_110) (Ls := #[.val (.int i0), .val (.int i1), .val (.int i2), .val (.int i3), .val (.int i4), .val (.int (Int32.ofNat na)), .val (.int (Int32.ofNat nb)), .val (.int (Int32.ofNat nc)), .val (.int (Int32.ofNat ng)), .val (.int (bi (q32 = true))), .val (.int (bi (q46 = true))), .val (.int (bi (q60 = true))), .val (.int (bi (q75 = true))), .val (.ref b1), .val (.int (bi (Emp (fun _ => false)))), .unset, .unset, .unset, .unset])
            generalize e24 : T24.heap = h24 at q24
            obtain ⟨rfl, N24q, K24q, E24q, y240, y241, y242, y243, F24q0, F24q1, F24q2, F24q3, B24⟩ := q24
            have N24 := Fr.app N3 N24q
            have Z24 : n0 ≤ h24.size := Nat.le_trans Z1 K24q.1
            refine Go.step (st24) ?_
            show Go _ _ _ _ _ _ _ T24 (mkF m 113 #[.val (.int i0), .val (.int i1), .val (.int i2), .val (.int i3), .val (.int i4), .val (.int (Int32.ofNat na)), .val (.int (Int32.ofNat nb)), .val (.int (Int32.ofNat nc)), .val (.int (Int32.ofNat ng)), .val (.int (bi (q32 = true))), .val (.int (bi (q46 = true))), .val (.int (bi (q60 = true))), .val (.int (bi (q75 = true))), .val (.ref b1), .val (.int (bi (Emp (fun _ => false)))), .unset, .unset, .unset, .unset] [])
            exact k113 _ _ _ _ _ _ _ (X24.more (by decide) (by decide)) e24 N24 Z24 E24q F24q0 F24q1 F24q2 F24q3 (Bits.congr B24 (fun i => by simp [c103_23]))
          · refine Go.step (fun t k => XS.ifYes X3.here hx rfl (pc0 := 103) (pc' := 113) rfl (hb hby at_103) rfl ((if0 _ _).trans (teq (bi_f c103_23)).1) (by decide) (by decide) k) ?_
            show Go _ _ _ _ _ _ _ T3 (mkF m 113 #[.val (.int i0), .val (.int i1), .val (.int i2), .val (.int i3), .val (.int i4), .val (.int (Int32.ofNat na)), .val (.int (Int32.ofNat nb)), .val (.int (Int32.ofNat nc)), .val (.int (Int32.ofNat ng)), .val (.int (bi (q32 = true))), .val (.int (bi (q46 = true))), .val (.int (bi (q60 = true))), .val (.int (bi (q75 = true))), .val (.ref b1), .val (.int (bi (Emp (fun _ => false)))), .unset, .unset, .unset, .unset] [])
            exact k113 _ _ _ _ _ _ _ (X3.more (by decide) (by decide)) e3 N3 Z1 A1 F1_bits0 F1_bits1 F1_bits2 F1_bits3 (Bits.congr Bits.zero (fun i => by simp [c103_23]))
        by_cases c75_25 : (i4 &&& (8 : Int32)) = (0 : Int32)
        · refine Go.step (fun t k => XS.ifYes X0.here hx rfl (pc0 := 75) (pc' := 82) rfl (hb hby at_75) rfl ((if0 _ _).trans (teq c75_25).1) (by decide) (by decide) k) ?_
          show Go _ _ _ _ _ _ _ T0 (mkF m 82 #[.val (.int i0), .val (.int i1), .val (.int i2), .val (.int i3), .val (.int i4), .val (.int (Int32.ofNat na)), .val (.int (Int32.ofNat nb)), .val (.int (Int32.ofNat nc)), .val (.int (Int32.ofNat ng)), .val (.int (bi (q32 = true))), .val (.int (bi (q46 = true))), .val (.int (bi (q60 = true))), .unset, .unset, .unset, .unset, .unset, .unset, .unset] [])
          refine Go.step (fun t k => XS.iconst X0.here hx rfl (hb hby at_82) k) ?_
          show Go _ _ _ _ _ _ _ T0 (mkF m 83 #[.val (.int i0), .val (.int i1), .val (.int i2), .val (.int i3), .val (.int i4), .val (.int (Int32.ofNat na)), .val (.int (Int32.ofNat nb)), .val (.int (Int32.ofNat nc)), .val (.int (Int32.ofNat ng)), .val (.int (bi (q32 = true))), .val (.int (bi (q46 = true))), .val (.int (bi (q60 = true))), .unset, .unset, .unset, .unset, .unset, .unset, .unset] [(.int (0 : Int32))])
          rw [show (bi (q75 = true)) = (0 : Int32) from bi_f (mt hq75.mp (by simp only [eq_true c75_25, not_true_eq_false, not_false_eq_true, and_true, true_and, and_false, false_and, or_true, true_or, or_false, false_or, and_self, or_self]))] at j75
          exact j75
        · refine Go.step (fun t k => XS.ifNo X0.here hx rfl (hb hby at_75) rfl ((if0 _ _).trans (feq c75_25).1) k) ?_
          show Go _ _ _ _ _ _ _ T0 (mkF m 78 #[.val (.int i0), .val (.int i1), .val (.int i2), .val (.int i3), .val (.int i4), .val (.int (Int32.ofNat na)), .val (.int (Int32.ofNat nb)), .val (.int (Int32.ofNat nc)), .val (.int (Int32.ofNat ng)), .val (.int (bi (q32 = true))), .val (.int (bi (q46 = true))), .val (.int (bi (q60 = true))), .unset, .unset, .unset, .unset, .unset, .unset, .unset] [])
          refine Go.step (fun t k => XS.iconst X0.here hx rfl (hb hby at_78) k) ?_
          show Go _ _ _ _ _ _ _ T0 (mkF m 79 #[.val (.int i0), .val (.int i1), .val (.int i2), .val (.int i3), .val (.int i4), .val (.int (Int32.ofNat na)), .val (.int (Int32.ofNat nb)), .val (.int (Int32.ofNat nc)), .val (.int (Int32.ofNat ng)), .val (.int (bi (q32 = true))), .val (.int (bi (q46 = true))), .val (.int (bi (q60 = true))), .unset, .unset, .unset, .unset, .unset, .unset, .unset] [(.int (1 : Int32))])
          refine Go.step (fun t k => XS.goto X0.here hx rfl (pc0 := 79) (pc' := 83) rfl (hb hby at_79) (by decide) (by decide) k) ?_
          show Go _ _ _ _ _ _ _ T0 (mkF m 83 #[.val (.int i0), .val (.int i1), .val (.int i2), .val (.int i3), .val (.int i4), .val (.int (Int32.ofNat na)), .val (.int (Int32.ofNat nb)), .val (.int (Int32.ofNat nc)), .val (.int (Int32.ofNat ng)), .val (.int (bi (q32 = true))), .val (.int (bi (q46 = true))), .val (.int (bi (q60 = true))), .unset, .unset, .unset, .unset, .unset, .unset, .unset] [(.int (1 : Int32))])
          rw [show (bi (q75 = true)) = (1 : Int32) from bi_t (hq75.mpr (by simp only [eq_false c75_25, not_true_eq_false, not_false_eq_true, and_true, true_and, and_false, false_and, or_true, true_or, or_false, false_or, and_self, or_self]))] at j75
          exact j75
      by_cases c60_26 : (i4 &&& (4 : Int32)) = (0 : Int32)
      · refine Go.step (fun t k => XS.ifYes X0.here hx rfl (pc0 := 60) (pc' := 67) rfl (hb hby at_60) rfl ((if0 _ _).trans (teq c60_26).1) (by decide) (by decide) k) ?_
        show Go _ _ _ _ _ _ _ T0 (mkF m 67 #[.val (.int i0), .val (.int i1), .val (.int i2), .val (.int i3), .val (.int i4), .val (.int (Int32.ofNat na)), .val (.int (Int32.ofNat nb)), .val (.int (Int32.ofNat nc)), .val (.int (Int32.ofNat ng)), .val (.int (bi (q32 = true))), .val (.int (bi (q46 = true))), .unset, .unset, .unset, .unset, .unset, .unset, .unset, .unset] [])
        refine Go.step (fun t k => XS.iconst X0.here hx rfl (hb hby at_67) k) ?_
        show Go _ _ _ _ _ _ _ T0 (mkF m 68 #[.val (.int i0), .val (.int i1), .val (.int i2), .val (.int i3), .val (.int i4), .val (.int (Int32.ofNat na)), .val (.int (Int32.ofNat nb)), .val (.int (Int32.ofNat nc)), .val (.int (Int32.ofNat ng)), .val (.int (bi (q32 = true))), .val (.int (bi (q46 = true))), .unset, .unset, .unset, .unset, .unset, .unset, .unset, .unset] [(.int (0 : Int32))])
        rw [show (bi (q60 = true)) = (0 : Int32) from bi_f (mt hq60.mp (by simp only [eq_true c60_26, not_true_eq_false, not_false_eq_true, and_true, true_and, and_false, false_and, or_true, true_or, or_false, false_or, and_self, or_self]))] at j60
        exact j60
      · refine Go.step (fun t k => XS.ifNo X0.here hx rfl (hb hby at_60) rfl ((if0 _ _).trans (feq c60_26).1) k) ?_
        show Go _ _ _ _ _ _ _ T0 (mkF m 63 #[.val (.int i0), .val (.int i1), .val (.int i2), .val (.int i3), .val (.int i4), .val (.int (Int32.ofNat na)), .val (.int (Int32.ofNat nb)), .val (.int (Int32.ofNat nc)), .val (.int (Int32.ofNat ng)), .val (.int (bi (q32 = true))), .val (.int (bi (q46 = true))), .unset, .unset, .unset, .unset, .unset, .unset, .unset, .unset] [])
        refine Go.step (fun t k => XS.iconst X0.here hx rfl (hb hby at_63) k) ?_
        show Go _ _ _ _ _ _ _ T0 (mkF m 64 #[.val (.int i0), .val (.int i1), .val (.int i2), .val (.int i3), .val (.int i4), .val (.int (Int32.ofNat na)), .val (.int (Int32.ofNat nb)), .val (.int (Int32.ofNat nc)), .val (.int (Int32.ofNat ng)), .val (.int (bi (q32 = true))), .val (.int (bi (q46 = true))), .unset, .unset, .unset, .unset, .unset, .unset, .unset, .unset] [(.int (1 : Int32))])
        refine Go.step (fun t k => XS.goto X0.here hx rfl (pc0 := 64) (pc' := 68) rfl (hb hby at_64) (by decide) (by decide) k) ?_
        show Go _ _ _ _ _ _ _ T0 (mkF m 68 #[.val (.int i0), .val (.int i1), .val (.int i2), .val (.int i3), .val (.int i4), .val (.int (Int32.ofNat na)), .val (.int (Int32.ofNat nb)), .val (.int (Int32.ofNat nc)), .val (.int (Int32.ofNat ng)), .val (.int (bi (q32 = true))), .val (.int (bi (q46 = true))), .unset, .unset, .unset, .unset, .unset, .unset, .unset, .unset] [(.int (1 : Int32))])
        rw [show (bi (q60 = true)) = (1 : Int32) from bi_t (hq60.mpr (by simp only [eq_false c60_26, not_true_eq_false, not_false_eq_true, and_true, true_and, and_false, false_and, or_true, true_or, or_false, false_or, and_self, or_self]))] at j60
        exact j60
    by_cases c46_27 : (i4 &&& (2 : Int32)) = (0 : Int32)
    · refine Go.step (fun t k => XS.ifYes X0.here hx rfl (pc0 := 46) (pc' := 53) rfl (hb hby at_46) rfl ((if0 _ _).trans (teq c46_27).1) (by decide) (by decide) k) ?_
      show Go _ _ _ _ _ _ _ T0 (mkF m 53 #[.val (.int i0), .val (.int i1), .val (.int i2), .val (.int i3), .val (.int i4), .val (.int (Int32.ofNat na)), .val (.int (Int32.ofNat nb)), .val (.int (Int32.ofNat nc)), .val (.int (Int32.ofNat ng)), .val (.int (bi (q32 = true))), .unset, .unset, .unset, .unset, .unset, .unset, .unset, .unset, .unset] [])
      refine Go.step (fun t k => XS.iconst X0.here hx rfl (hb hby at_53) k) ?_
      show Go _ _ _ _ _ _ _ T0 (mkF m 54 #[.val (.int i0), .val (.int i1), .val (.int i2), .val (.int i3), .val (.int i4), .val (.int (Int32.ofNat na)), .val (.int (Int32.ofNat nb)), .val (.int (Int32.ofNat nc)), .val (.int (Int32.ofNat ng)), .val (.int (bi (q32 = true))), .unset, .unset, .unset, .unset, .unset, .unset, .unset, .unset, .unset] [(.int (0 : Int32))])
      rw [show (bi (q46 = true)) = (0 : Int32) from bi_f (mt hq46.mp (by simp only [eq_true c46_27, not_true_eq_false, not_false_eq_true, and_true, true_and, and_false, false_and, or_true, true_or, or_false, false_or, and_self, or_self]))] at j46
      exact j46
    · refine Go.step (fun t k => XS.ifNo X0.here hx rfl (hb hby at_46) rfl ((if0 _ _).trans (feq c46_27).1) k) ?_
      show Go _ _ _ _ _ _ _ T0 (mkF m 49 #[.val (.int i0), .val (.int i1), .val (.int i2), .val (.int i3), .val (.int i4), .val (.int (Int32.ofNat na)), .val (.int (Int32.ofNat nb)), .val (.int (Int32.ofNat nc)), .val (.int (Int32.ofNat ng)), .val (.int (bi (q32 = true))), .unset, .unset, .unset, .unset, .unset, .unset, .unset, .unset, .unset] [])
      refine Go.step (fun t k => XS.iconst X0.here hx rfl (hb hby at_49) k) ?_
      show Go _ _ _ _ _ _ _ T0 (mkF m 50 #[.val (.int i0), .val (.int i1), .val (.int i2), .val (.int i3), .val (.int i4), .val (.int (Int32.ofNat na)), .val (.int (Int32.ofNat nb)), .val (.int (Int32.ofNat nc)), .val (.int (Int32.ofNat ng)), .val (.int (bi (q32 = true))), .unset, .unset, .unset, .unset, .unset, .unset, .unset, .unset, .unset] [(.int (1 : Int32))])
      refine Go.step (fun t k => XS.goto X0.here hx rfl (pc0 := 50) (pc' := 54) rfl (hb hby at_50) (by decide) (by decide) k) ?_
      show Go _ _ _ _ _ _ _ T0 (mkF m 54 #[.val (.int i0), .val (.int i1), .val (.int i2), .val (.int i3), .val (.int i4), .val (.int (Int32.ofNat na)), .val (.int (Int32.ofNat nb)), .val (.int (Int32.ofNat nc)), .val (.int (Int32.ofNat ng)), .val (.int (bi (q32 = true))), .unset, .unset, .unset, .unset, .unset, .unset, .unset, .unset, .unset] [(.int (1 : Int32))])
      rw [show (bi (q46 = true)) = (1 : Int32) from bi_t (hq46.mpr (by simp only [eq_false c46_27, not_true_eq_false, not_false_eq_true, and_true, true_and, and_false, false_and, or_true, true_or, or_false, false_or, and_self, or_self]))] at j46
      exact j46
  by_cases c32_28 : (i4 &&& (1 : Int32)) = (0 : Int32)
  · refine Go.step (fun t k => XS.ifYes X0.here hx rfl (pc0 := 32) (pc' := 39) rfl (hb hby at_32) rfl ((if0 _ _).trans (teq c32_28).1) (by decide) (by decide) k) ?_
    show Go _ _ _ _ _ _ _ T0 (mkF m 39 #[.val (.int i0), .val (.int i1), .val (.int i2), .val (.int i3), .val (.int i4), .val (.int (Int32.ofNat na)), .val (.int (Int32.ofNat nb)), .val (.int (Int32.ofNat nc)), .val (.int (Int32.ofNat ng)), .unset, .unset, .unset, .unset, .unset, .unset, .unset, .unset, .unset, .unset] [])
    refine Go.step (fun t k => XS.iconst X0.here hx rfl (hb hby at_39) k) ?_
    show Go _ _ _ _ _ _ _ T0 (mkF m 40 #[.val (.int i0), .val (.int i1), .val (.int i2), .val (.int i3), .val (.int i4), .val (.int (Int32.ofNat na)), .val (.int (Int32.ofNat nb)), .val (.int (Int32.ofNat nc)), .val (.int (Int32.ofNat ng)), .unset, .unset, .unset, .unset, .unset, .unset, .unset, .unset, .unset, .unset] [(.int (0 : Int32))])
    rw [show (bi (q32 = true)) = (0 : Int32) from bi_f (mt hq32.mp (by simp only [eq_true c32_28, not_true_eq_false, not_false_eq_true, and_true, true_and, and_false, false_and, or_true, true_or, or_false, false_or, and_self, or_self]))] at j32
    exact j32
  · refine Go.step (fun t k => XS.ifNo X0.here hx rfl (hb hby at_32) rfl ((if0 _ _).trans (feq c32_28).1) k) ?_
    show Go _ _ _ _ _ _ _ T0 (mkF m 35 #[.val (.int i0), .val (.int i1), .val (.int i2), .val (.int i3), .val (.int i4), .val (.int (Int32.ofNat na)), .val (.int (Int32.ofNat nb)), .val (.int (Int32.ofNat nc)), .val (.int (Int32.ofNat ng)), .unset, .unset, .unset, .unset, .unset, .unset, .unset, .unset, .unset, .unset] [])
    refine Go.step (fun t k => XS.iconst X0.here hx rfl (hb hby at_35) k) ?_
    show Go _ _ _ _ _ _ _ T0 (mkF m 36 #[.val (.int i0), .val (.int i1), .val (.int i2), .val (.int i3), .val (.int i4), .val (.int (Int32.ofNat na)), .val (.int (Int32.ofNat nb)), .val (.int (Int32.ofNat nc)), .val (.int (Int32.ofNat ng)), .unset, .unset, .unset, .unset, .unset, .unset, .unset, .unset, .unset, .unset] [(.int (1 : Int32))])
    refine Go.step (fun t k => XS.goto X0.here hx rfl (pc0 := 36) (pc' := 40) rfl (hb hby at_36) (by decide) (by decide) k) ?_
    show Go _ _ _ _ _ _ _ T0 (mkF m 40 #[.val (.int i0), .val (.int i1), .val (.int i2), .val (.int i3), .val (.int i4), .val (.int (Int32.ofNat na)), .val (.int (Int32.ofNat nb)), .val (.int (Int32.ofNat nc)), .val (.int (Int32.ofNat ng)), .unset, .unset, .unset, .unset, .unset, .unset, .unset, .unset, .unset, .unset] [(.int (1 : Int32))])
    rw [show (bi (q32 = true)) = (1 : Int32) from bi_t (hq32.mpr (by simp only [eq_false c32_28, not_true_eq_false, not_false_eq_true, and_true, true_and, and_false, false_and, or_true, true_or, or_false, false_or, and_self, or_self]))] at j32
    exact j32
set_option maxRecDepth 65536 in
set_option maxHeartbeats 40000000 in
theorem comes_1 {Post : Tables → Env → Array Value → State → Outcome → State → Prop} (hpost : ∀ tb e args s v u, (limb_1_1.after args s (.returned v) u = true ∧ limb_1_2.after args s (.returned v) u = true ∧ True) → FrameEnd s (.returned v) u (Jvm.fieldLocs frame_1_writes args s ++ Jvm.arrayLocs frame_1_arrays args s ++ Jvm.staticLocs frame_1_statics s) 16 128 → Post tb e args s (.returned v) u) :
    ArmFor flags0 classFile x code maxLocals ret World_1 tables_1 room_1 Calls_1 rest_1 Pre_1 Post := by
  intro l hfl _ _ p e ha hc hk s m args below hf hA hF happ hP
  obtain ⟨hcalls, hrest, hpre⟩ := hP
  obtain ⟨-, -, -, hnamed, -, -, -, hat⟩ := (Spec.applies_iff hf).mp happ
  obtain ⟨hg, hn⟩ := and_e (Cond.before_iff.mp (show (Jvm.Cond.and given_1 narrow_1).before args s = true from hpre))
  obtain ⟨hcnt, hg1⟩ := and_e hg
  obtain ⟨ha0, hg2⟩ := and_e hg1
  obtain ⟨ha1, hg3⟩ := and_e hg2
  obtain ⟨ha2, hg4⟩ := and_e hg3
  obtain ⟨ha3, hg5⟩ := and_e hg4
  obtain ⟨w0, w1, w2, w3, w4, rfl⟩ : ∃ w0 w1 w2 w3 w4 : Value, args = #[w0, w1, w2, w3, w4] := by
    have hs : args.size = 5 := by simpa [Cond.value, given_1] using hcnt
    obtain ⟨L⟩ := args
    match L, hs with
    | [w0, w1, w2, w3, w4], _ => exact ⟨w0, w1, w2, w3, w4, rfl⟩
  have hw := fun d (hd : d ∈ tables_1) => atoms_spec (ws := Jvm.Cond.code x code maxLocals ret :: tables_1) hat d (List.mem_cons_of_mem _ hd)
  have hfit : Fit s := fun {y c} hc i hi => by
    obtain ⟨ha, rfl⟩ := Array.getElem?_eq_some_iff.mp hc
    have q := List.all_eq_true.mp ((Array.all_eq_true_iff_forall_mem.mp hF) _ (Array.getElem_mem ha)) i (List.mem_range.mpr hi)
    simpa [Array.getElem?_eq_getElem hi] using q
  obtain ⟨i0, ei0⟩ := is_v ha0
  obtain rfl : w0 = (.int i0) := Option.some.inj ei0
  obtain ⟨i1, ei1⟩ := is_v ha1
  obtain rfl : w1 = (.int i1) := Option.some.inj ei1
  obtain ⟨i2, ei2⟩ := is_v ha2
  obtain rfl : w2 = (.int i2) := Option.some.inj ei2
  obtain ⟨i3, ei3⟩ := is_v ha3
  obtain rfl : w3 = (.int i3) := Option.some.inj ei3
  obtain ⟨i4, ei4⟩ := is_v hg5
  obtain rfl : w4 = (.int i4) := Option.some.inj ei4
  obtain ⟨n, o, h1, h2, h3, _, L, rfl, ⟨rfl, N⟩, hq⟩ := rm0 l s _ hw tables_1 i0 i1 i2 i3 i4 s.heap s.heap.size (Nat.le_refl _)  p e ha hc hk s m _ below hf ((Spec.applies_iff_loose hf).mp happ).1 ⟨rfl, State.Warmed39.refl s, rfl⟩ trivial
  refine ⟨n, _, h1, h2, h3, hpost _ _ _ _ _ _ ⟨Cond.after_iff.mpr rfl, Cond.after_iff.mpr (eq_i res_at (Term.int_eval (1)) rfl), trivial⟩ ⟨hq.1, hq.2.1, (hq.2.2.sift fun y hy => Or.inr (N y hy)).mono (by decide) (by decide)⟩⟩
theorem main_1_1 : Claimed_1_1 := comes_1 fun _ _ _ _ _ _ h hF => ⟨h.1, hF⟩
theorem main_1_2 : Claimed_1_2 := comes_1 fun _ _ _ _ _ _ h hF => ⟨h.2.1, hF⟩
end Jvm.Pilot.@@N@@
namespace Jvm.Pilot.@@N@@
open Jvm Jvm.ClassFile Sem Op Lib Jvm.Free Jvm.Stand Jvm.Pilot.@@N@@.Jvm.D
/-! MADE BY PROGRAM (witnessworld.py) out of the Statement's table words and the real class files: 9 classes; the members and pool entries that the words name. The judged class is class 1, her method 1. -/
namespace start1
open Jvm.ClassFile
def u (s : String) : CpInfo := .utf8 (stringToUtf16 s)
/-- a pool by its gaps: so many unusable entries, then the entry; so many at the end -/
def gap : Nat → List CpInfo → List CpInfo
  | 0, r => r
  | n + 1, r => .unusable :: gap n r
def poolList (es : List (Nat × CpInfo)) (last : Nat) : List CpInfo := es.foldr (fun e r => gap e.1 (e.2 :: r)) (gap last [])
def pool (es : List (Nat × CpInfo)) (last : Nat) : Array CpInfo := ⟨poolList es last⟩
def fileOf (pool : Array CpInfo) (this : Nat) (attrs : Array Attribute := #[]) (ms : Array MethodInfo := #[]) (fl : Nat := 33) (sup : Nat := 0) (ifs : Array Nat := #[]) (fds : Array FieldInfo := #[]) : ClassFile where
  minorVersion := 0
  majorVersion := 65
  constantPool := pool
  accessFlags := fl
  thisClass := this
  superClass := sup
  interfaces := ifs
  fields := fds
  methods := ms
  attributes := attrs
def plain (name : String) (sup : Option ClassId) : Class where
  name := name
  kind := .ordinary
  loader := none
  accessFlags := 33
  super := sup
  interfaces := #[]
  cf := none
  fields := #[]
  methods := #[]
  instanceTypes := #[]
  staticTypes := #[]
  resolved := #[]
  callSites := []
  init := .initialized
  statics := none
  mirror := none

def pool0 : Array CpInfo := pool [(5, u "<init>"), (0, u "()V"), (1, .class_ 10), (1, u "java/lang/Object")] 113

def k0c0 : Code := { maxStack := 0, maxLocals := 1, code := object_method_1_code, exceptionTable := #[], attributes := #[] }
def k0m0 : Method := { name := "<init>", desc := "()V", sig := { parameters := [], returnType := none }, accessFlags := 1, code := some k0c0 }
/-- java/lang/Object -/
def k0 : Class := { plain "java/lang/Object" none with
  accessFlags := 33
  interfaces := #[]
  cf := some (fileOf pool0 8 #[] #[{ accessFlags := 1, nameIndex := 5, descriptorIndex := 6, attributes := #[] }] 33 0 #[] #[])
  fields := #[]
  methods := #[k0m0]
  instanceTypes := #[]
  staticTypes := #[]
  resolved := Array.replicate 124 none
  statics := none }

def pool1 : Array CpInfo := pool [(2, .class_ 4), (0, .nameAndType 5 6), (0, u "java/lang/Object"), (0, u "<init>"), (0, u "()V"), (0, .class_ 8), (0, u "com/example/touchtree/touchtree/node/PointerSet"), (0, .methodref 7 3), (0, .methodref 7 11), (0, .nameAndType 12 13), (0, u "isEmpty"), (0, u "()Z"), (0, .methodref 7 15), (0, .nameAndType 16 17), (0, u "add"), (0, u "(I)V"), (0, .methodref 7 19), (0, .nameAndType 20 17), (0, u "remove"), (0, .class_ 22), (0, u "com/example/touchtree/touchtree/node/PointerSetIsEmptyPinLaw"), (2, u "law"), (0, u "(IIIII)Z")] 3

def k1m0 : Method := { name := "<init>", desc := "()V", sig := { parameters := [], returnType := none }, accessFlags := 2, code := none }
def k1c1 : Code := { maxStack := 2, maxLocals := 19, code := code, exceptionTable := #[], attributes := #[] }
def k1m1 : Method := { name := "law", desc := "(IIIII)Z", sig := { parameters := [.int, .int, .int, .int, .int], returnType := some .boolean }, accessFlags := 9, code := some k1c1 }
/-- com/example/touchtree/touchtree/node/PointerSetIsEmptyPinLaw -/
def k1 : Class := { plain "com/example/touchtree/touchtree/node/PointerSetIsEmptyPinLaw" (some 0) with
  accessFlags := 49
  interfaces := #[]
  cf := some (fileOf pool1 21 #[] #[{ accessFlags := 2, nameIndex := 5, descriptorIndex := 6, attributes := #[] }, { accessFlags := 9, nameIndex := 25, descriptorIndex := 26, attributes := #[] }] 49 2 #[] #[])
  fields := #[]
  methods := #[k1m0, k1m1]
  instanceTypes := #[]
  staticTypes := #[]
  resolved := Array.replicate 30 none
  statics := none }

def pool2 : Array CpInfo := pool [(1, .methodref 2 3), (0, .class_ 4), (0, .nameAndType 5 6), (0, u "java/lang/Object"), (0, u "<init>"), (0, u "()V"), (1, .class_ 10), (1, u "com/example/touchtree/touchtree/node/PointerSet"), (2, .fieldref 8 14), (0, .nameAndType 15 16), (0, u "bits0"), (0, u "J"), (0, .fieldref 8 18), (0, .nameAndType 19 16), (0, u "bits1"), (0, .fieldref 8 21), (0, .nameAndType 22 16), (0, u "bits2"), (0, .fieldref 8 24), (0, .nameAndType 25 16), (0, u "bits3"), (0, .long 18446744073709551615), (18, u "add"), (0, u "(I)V"), (0, u "remove"), (0, u "isEmpty"), (0, u "()Z")] 5

def k2c0 : Code := { maxStack := 1, maxLocals := 1, code := prog_67_method_1_code, exceptionTable := #[], attributes := #[] }
def k2m0 : Method := { name := "<init>", desc := "()V", sig := { parameters := [], returnType := none }, accessFlags := 0, code := some k2c0 }
def k2c1 : Code := { maxStack := 5, maxLocals := 4, code := prog_67_method_4_code, exceptionTable := #[], attributes := #[] }
def k2m1 : Method := { name := "add", desc := "(I)V", sig := { parameters := [.int], returnType := none }, accessFlags := 0, code := some k2c1 }
def k2c2 : Code := { maxStack := 7, maxLocals := 4, code := prog_67_method_5_code, exceptionTable := #[], attributes := #[] }
def k2m2 : Method := { name := "remove", desc := "(I)V", sig := { parameters := [.int], returnType := none }, accessFlags := 0, code := some k2c2 }
def k2c3 : Code := { maxStack := 4, maxLocals := 1, code := prog_67_method_6_code, exceptionTable := #[], attributes := #[] }
def k2m3 : Method := { name := "isEmpty", desc := "()Z", sig := { parameters := [], returnType := some .boolean }, accessFlags := 0, code := some k2c3 }
/-- com/example/touchtree/touchtree/node/PointerSet -/
def k2 : Class := { plain "com/example/touchtree/touchtree/node/PointerSet" (some 0) with
  accessFlags := 48
  interfaces := #[]
  cf := some (fileOf pool2 8 #[] #[{ accessFlags := 0, nameIndex := 5, descriptorIndex := 6, attributes := #[] }, { accessFlags := 0, nameIndex := 45, descriptorIndex := 46, attributes := #[] }, { accessFlags := 0, nameIndex := 47, descriptorIndex := 46, attributes := #[] }, { accessFlags := 0, nameIndex := 48, descriptorIndex := 49, attributes := #[] }] 48 2 #[] #[{ accessFlags := 2, nameIndex := 15, descriptorIndex := 16, attributes := #[] }, { accessFlags := 2, nameIndex := 19, descriptorIndex := 16, attributes := #[] }, { accessFlags := 2, nameIndex := 22, descriptorIndex := 16, attributes := #[] }, { accessFlags := 2, nameIndex := 25, descriptorIndex := 16, attributes := #[] }])
  fields := #[{ name := "bits0", type := .long, accessFlags := 2, slot := 0, constantValue := 0 }, { name := "bits1", type := .long, accessFlags := 2, slot := 1, constantValue := 0 }, { name := "bits2", type := .long, accessFlags := 2, slot := 2, constantValue := 0 }, { name := "bits3", type := .long, accessFlags := 2, slot := 3, constantValue := 0 }]
  methods := #[k2m0, k2m1, k2m2, k2m3]
  instanceTypes := #[.long, .long, .long, .long]
  staticTypes := #[]
  resolved := Array.replicate 55 none
  statics := none }

def pool3 : Array CpInfo := pool [(1, u "java/lang/Cloneable"), (0, .class_ 1), (0, u "java/lang/Object"), (0, .class_ 3)] 3

/-- java/lang/Cloneable -/
def k3 : Class := { plain "java/lang/Cloneable" (some 0) with
  accessFlags := 1537
  interfaces := #[]
  cf := some (fileOf pool3 2 #[] #[] 1537 4 #[] #[])
  fields := #[]
  methods := #[]
  instanceTypes := #[]
  staticTypes := #[]
  resolved := Array.replicate 8 none
  statics := none }

def pool4 : Array CpInfo := pool [(1, u "java/io/Serializable"), (0, .class_ 1), (0, u "java/lang/Object"), (0, .class_ 3)] 3

/-- java/io/Serializable -/
def k4 : Class := { plain "java/io/Serializable" (some 0) with
  accessFlags := 1537
  interfaces := #[]
  cf := some (fileOf pool4 2 #[] #[] 1537 4 #[] #[])
  fields := #[]
  methods := #[]
  instanceTypes := #[]
  staticTypes := #[]
  resolved := Array.replicate 8 none
  statics := none }

/-- the primitive byte -/
def k5 : Class := { plain "byte" none with kind := .primitive 'B', accessFlags := 0x411 }
/-- [B -/
def k6 : Class := { plain "[B" (some 0) with kind := .array 5 .byte, interfaces := #[3, 4], accessFlags := 1041 }

/-- the primitive int -/
def k7 : Class := { plain "int" none with kind := .primitive 'I', accessFlags := 0x411 }
/-- [I -/
def k8 : Class := { plain "[I" (some 0) with kind := .array 7 .int, interfaces := #[3, 4], accessFlags := 1041 }

def heap : Heap := #[]
def classes : Array Class := #[k0, k1, k2, k3, k4, k5, k6, k7, k8]
def interned : List (Array UInt16 × Addr) := []
def slotsUsed : Nat := 0
def theMethod : MethodId := ⟨1, 1⟩
def args0 : Array Value := #[.int 5, .int 5, .int 5, .int 5, .int 5]
def aboutOver (below : List Frame) : State where
  vm := { classes := classes, interned := interned.toArray }
  heap := heap
  slotsUsed := slotsUsed
  threads := #[{ frames := .invoking theMethod args0 :: below }]
def below0 : List Frame := [.native { method := ⟨0, 0⟩, args := #[] }]
def about1 : State := aboutOver below0
def p0 : Program := .bare "" "" ""
def e0 : Env := launch0.env 0 0 0
theorem w_frames : about1.frames = Frame.invoking theMethod args0 :: below0 := rfl
set_option maxRecDepth 65536 in
theorem w_args : argsFit about1.vm theMethod args0 = true := by decide +kernel
set_option maxRecDepth 65536 in
theorem w_heap : heapFits about1 = true := by decide +kernel
set_option maxRecDepth 65536 in
theorem w_runnable : about1.curStatus? = some .runnable := by decide +kernel
set_option maxRecDepth 65536 in
theorem w_alone : about1.alone = true := by decide +kernel
set_option maxRecDepth 65536 in
theorem w_named : about1.methodNamed? x = some theMethod := by decide +kernel
set_option maxRecDepth 65536 in
theorem w_hears : about1.hears theMethod below0 = true := by decide +kernel
set_option maxRecDepth 65536 in
theorem w_ripe : about1.ripe theMethod args0 below0 = true := by decide +kernel
theorem w_running : about1.status = .running := rfl
set_option maxRecDepth 65536 in
theorem w_room : about1.hasRoom e0.platform room_1 = true :=
  launch0.hasRoom_least _ room_1 (by decide +kernel) (by decide +kernel) (by decide +kernel) (by decide +kernel) (by decide +kernel) (by decide +kernel)
theorem allAtoms_all (ts : List Jvm.Cond) (a : Array Jvm.Value) (st : Jvm.State) : (allAtoms ts).before a st = ts.all (fun c => c.before a st) := by
  induction ts with
  | nil => rfl
  | cons c t ih =>
    show (Jvm.Cond.and c (allAtoms t)).before a st = _
    rw [Jvm.Cond.before_and, ih, List.all_cons]
def words1 : List Jvm.Cond := Jvm.Cond.code x code maxLocals ret :: tables_1
/-- a 'code' word, met by the world's own term for the bytes: nothing is compared byte by byte -/
theorem code_word {y : MethodName} {bytes : ByteArray} {mx : Nat} {rt : Option FieldType} {a : Array Value} {s : State} {m : MethodId} {meth : Method} {c : Code} (h1 : s.methodNamed? y = some m) (h2 : s.vm.method? m = some meth) (h3 : meth.code = some c) (h4 : c.code = bytes)
    (h5 : (c.maxLocals == mx && c.exceptionTable.isEmpty && decide (c.maxStack ≤ mostOperands) && decide (meth.sig.returnType = rt) && !meth.locks && decide (parseMethodDescriptor y.desc = some meth.sig)) = true) : (Jvm.Cond.code y bytes mx rt).before a s = true := by
  simp only [Bool.and_eq_true, beq_iff_eq, Bool.not_eq_true', decide_eq_true_eq] at h5
  obtain ⟨⟨⟨⟨⟨g1, g2⟩, g3⟩, g4⟩, g5⟩, g6⟩ := h5
  simp [Cond.before, Cond.holds, Cond.value, h1, h2, h3, h4, g1, g2, g3, g4, g5, g6]
def isCode : Jvm.Cond → Bool
  | .code _ _ _ _ => true
  | _ => false
theorem all_split {L : List Jvm.Cond} {P : Jvm.Cond → Bool} (h1 : L.all (fun c => isCode c || P c) = true) (h2 : ∀ c ∈ L.filter isCode, P c = true) : L.all P = true := by
  refine List.all_eq_true.mpr fun c hc => ?_
  have h := List.all_eq_true.mp h1 c hc
  rcases Bool.eq_false_or_eq_true (isCode c) with hi | hi
  · exact h2 c (List.mem_filter.mpr ⟨hc, hi⟩)
  · simpa [hi] using h
set_option maxRecDepth 65536 in
theorem w_c0 : (Jvm.Cond.code x code maxLocals ret).before args0 about1 = true := code_word (m := ⟨1, 1⟩) (meth := k1m1) (c := k1c1) (by decide +kernel) rfl rfl rfl (by decide +kernel)
set_option maxRecDepth 65536 in
theorem w_c1 : (Jvm.Cond.code ({ cls := "com/example/touchtree/touchtree/node/PointerSet", name := "<init>", desc := "()V" } : Jvm.MethodName) prog_67_method_1_code (1 : Nat) (Option.none : Option Jvm.ClassFile.FieldType)).before args0 about1 = true := code_word (m := ⟨2, 0⟩) (meth := k2m0) (c := k2c0) (by decide +kernel) rfl rfl rfl (by decide +kernel)
set_option maxRecDepth 65536 in
theorem w_c2 : (Jvm.Cond.code ({ cls := "java/lang/Object", name := "<init>", desc := "()V" } : Jvm.MethodName) object_method_1_code (1 : Nat) (Option.none : Option Jvm.ClassFile.FieldType)).before args0 about1 = true := code_word (m := ⟨0, 0⟩) (meth := k0m0) (c := k0c0) (by decide +kernel) rfl rfl rfl (by decide +kernel)
set_option maxRecDepth 65536 in
theorem w_c3 : (Jvm.Cond.code ({ cls := "com/example/touchtree/touchtree/node/PointerSet", name := "isEmpty", desc := "()Z" } : Jvm.MethodName) prog_67_method_6_code (1 : Nat) (Option.some Jvm.ClassFile.FieldType.boolean)).before args0 about1 = true := code_word (m := ⟨2, 3⟩) (meth := k2m3) (c := k2c3) (by decide +kernel) rfl rfl rfl (by decide +kernel)
set_option maxRecDepth 65536 in
theorem w_c4 : (Jvm.Cond.code ({ cls := "com/example/touchtree/touchtree/node/PointerSet", name := "add", desc := "(I)V" } : Jvm.MethodName) prog_67_method_4_code (4 : Nat) (Option.none : Option Jvm.ClassFile.FieldType)).before args0 about1 = true := code_word (m := ⟨2, 1⟩) (meth := k2m1) (c := k2c1) (by decide +kernel) rfl rfl rfl (by decide +kernel)
set_option maxRecDepth 65536 in
theorem w_c5 : (Jvm.Cond.code ({ cls := "com/example/touchtree/touchtree/node/PointerSet", name := "remove", desc := "(I)V" } : Jvm.MethodName) prog_67_method_5_code (4 : Nat) (Option.none : Option Jvm.ClassFile.FieldType)).before args0 about1 = true := code_word (m := ⟨2, 2⟩) (meth := k2m2) (c := k2c2) (by decide +kernel) rfl rfl rfl (by decide +kernel)
def codes1 : List Jvm.Cond := [Jvm.Cond.code x code maxLocals ret, Jvm.Cond.code ({ cls := "com/example/touchtree/touchtree/node/PointerSet", name := "<init>", desc := "()V" } : Jvm.MethodName) prog_67_method_1_code (1 : Nat) (Option.none : Option Jvm.ClassFile.FieldType), Jvm.Cond.code ({ cls := "java/lang/Object", name := "<init>", desc := "()V" } : Jvm.MethodName) object_method_1_code (1 : Nat) (Option.none : Option Jvm.ClassFile.FieldType), Jvm.Cond.code ({ cls := "com/example/touchtree/touchtree/node/PointerSet", name := "isEmpty", desc := "()Z" } : Jvm.MethodName) prog_67_method_6_code (1 : Nat) (Option.some Jvm.ClassFile.FieldType.boolean), Jvm.Cond.code ({ cls := "com/example/touchtree/touchtree/node/PointerSet", name := "add", desc := "(I)V" } : Jvm.MethodName) prog_67_method_4_code (4 : Nat) (Option.none : Option Jvm.ClassFile.FieldType), Jvm.Cond.code ({ cls := "com/example/touchtree/touchtree/node/PointerSet", name := "remove", desc := "(I)V" } : Jvm.MethodName) prog_67_method_5_code (4 : Nat) (Option.none : Option Jvm.ClassFile.FieldType)]
set_option maxRecDepth 65536 in
theorem codes_eq : words1.filter isCode = codes1 := rfl
theorem w_codes : ∀ c ∈ words1.filter isCode, c.before args0 about1 = true := by
  rw [codes_eq]
  intro c hc
  simp only [codes1, List.mem_cons, List.not_mem_nil, or_false] at hc
  rcases hc with rfl | rfl | rfl | rfl | rfl | rfl
  · exact w_c0
  · exact w_c1
  · exact w_c2
  · exact w_c3
  · exact w_c4
  · exact w_c5
set_option maxRecDepth 65536 in
theorem w_t1 : (words1.take 24).all (fun c => isCode c || c.before args0 about1) = true := by decide +kernel
set_option maxRecDepth 65536 in
theorem w_t2 : (words1.drop 24).all (fun c => isCode c || c.before args0 about1) = true := by decide +kernel
theorem w_tables : (allAtoms (Jvm.Cond.code x code maxLocals ret :: tables_1)).before args0 about1 = true := by
  rw [allAtoms_all]
  show words1.all (fun c => c.before args0 about1) = true
  refine all_split ?_ w_codes
  rw [← List.take_append_drop 24 words1, List.all_append, w_t1, w_t2]
  rfl
set_option maxRecDepth 65536 in
theorem w_case : (Jvm.Cond.and given_1 narrow_1).before args0 about1 = true := by decide +kernel
theorem w_applies : (headSpec (Jvm.Cond.code x code maxLocals ret :: tables_1) room_1).applies x e0.platform about1 = true :=
  (Spec.applies_iff w_frames).mpr ⟨w_running, w_runnable, w_alone, w_named, w_hears, w_ripe, w_room, w_tables⟩
theorem atStart : AtStart classFile x code maxLocals ret World_1 tables_1 room_1 Calls_1 rest_1 Pre_1 launch0 p0 e0 about1 theMethod args0 below0 :=
  ⟨lists_1, trivial, launch0.admits_env _ _ _, launch0.least_env, fairChoices_fair.cas, fairChoices_fair.clock, w_frames, w_args, w_heap, w_applies, trivial, trivial, w_case⟩
end start1
theorem witness_1 : WitnessClaimed_1 := ⟨start1.p0, start1.e0, start1.about1, start1.theMethod, start1.args0, start1.below0, start1.atStart⟩
end Jvm.Pilot.@@N@@
