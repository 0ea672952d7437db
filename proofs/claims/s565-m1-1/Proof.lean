import JvmDerived
import JvmDerived.Pilot.@@N@@Statement
import JvmDerived.Pilot.@@N@@Code
set_option linter.unusedVariables false
set_option linter.unusedSimpArgs false
namespace Jvm.RoadKit
open Sem ClassFile Op Lib Jvm.Stand Jvm.Free Jvm.LawKit
section OwnGo
variable {p : Program} {l : Launch} {e : Env} {R : Room} {s : State} {m : MethodId} {args : Array Value} {below : List Frame} {meth : Method} {c : Code} {T T' : State} {f f' g : JFrame} {locs : List Loc} {cells slots : Nat} {P : Outcome → State → Prop} {Q : Option Value → Heap → List Loc → Prop} {C N : Nat} {Z : State} {a0 : Array Value} {h : Heap}
/-- from T with the frame f on top the invocation ends, and P holds of its end -/
def oG (p : Program) (e : Env) (below : List Frame) (P : Outcome → State → Prop) (T : State) (f : JFrame) : Prop := ∃ s₂ o, Steps p.tables e below (T.setTop f) s₂ ∧ s₂.status = .running ∧ Ended s₂ below o ∧ P o s₂
theorem oS (h : ∀ t, Steps p.tables e below (T'.setTop f') t → Steps p.tables e below (T.setTop f) t) (k : oG p e below P T' f') : oG p e below P T f := by
  obtain ⟨s2, o, a, b⟩ := k
  exact ⟨s2, o, h _ a, b⟩
theorem own_tr (h : Steps p.tables e below (T.setTop f) (T'.setTop f')) (k : oG p e below P T' f') : oG p e below P T f := oS (fun _ q => h.trans q) k
theorem own_cast (q : f = f') (k : oG p e below P T f') : oG p e below P T f := q ▸ k
def own_P (s : State) (Q : Option Value → Heap → List Loc → Prop) (C N : Nat) (o : Outcome) (U' : State) : Prop := ∃ v L, o = .returned v ∧ Q v U'.heap L ∧ FrameEnd s o U' L C N
theorem own_ret {v : Option Value} (X : Stand p l e R s m args below meth c T locs cells slots) (hlocks : meth.locks = false) (hv : meth.sig.returnType = none → v = none) (hq : Q v T.heap locs) (hC : cells ≤ C) (hN : slots ≤ N)
    (hst : ∀ fs, (∀ (f : JFrame) (acts : List Action), f.method = m → f.locked = none → f.entered = [] → (doReturn e (T.setTop f) acts v).1 = T.setFrames fs) → Steps p.tables e below (T.setTop g) (T.setFrames fs)) : oG p e below (own_P s Q C N) T g := by
  obtain ⟨fs, hr, hrun, hended, hW, hsame⟩ := X.leave hv hlocks
  exact ⟨_, _, hst fs hr, hrun, hended, _, _, rfl, hq, ⟨_, rfl⟩, hW, hsame.mono hC hN⟩
theorem own_retN {pc : Nat} {Ls : Array Slot} {z : Int32} {t : FieldType} {rest : List Value} (X : Stand p l e R s m args below meth c T locs cells slots) (hx : p.tables.exec = Jvm.exec) (hlocks : meth.locks = false) (hret : meth.sig.returnType = some t) (ht : t = .boolean ∨ t = .byte ∨ t = .char ∨ t = .short)
    (hd : decode c.code pc = .ok (.ireturn, 1)) (hq : Q (some (.int (nar t z))) T.heap locs) (hC : cells ≤ C) (hN : slots ≤ N) : oG p e below (own_P s Q C N) T (mkF m pc Ls (.int z :: rest)) :=
  own_ret X hlocks (fun h => by rw [hret] at h; cases h) hq hC hN (fun fs hr => retN X hx hret ht hd hr)
theorem own_retI {pc : Nat} {Ls : Array Slot} {z : Int32} {rest : List Value} (X : Stand p l e R s m args below meth c T locs cells slots) (hx : p.tables.exec = Jvm.exec) (hlocks : meth.locks = false) (hret : meth.sig.returnType = some .int)
    (hd : decode c.code pc = .ok (.ireturn, 1)) (hq : Q (some (.int z)) T.heap locs) (hC : cells ≤ C) (hN : slots ≤ N) : oG p e below (own_P s Q C N) T (mkF m pc Ls (.int z :: rest)) :=
  own_ret X hlocks (fun h => by rw [hret] at h; cases h) hq hC hN (fun fs hr => by
    have hm' : T.vm.method? m = some meth := X.method'
    have hn : narrow .int (.int z) = .int z := rfl
    show Steps p.tables e below (T.setTop { method := m, pc := pc, locals := Ls, stack := _ :: rest, locked := none }) _
    jvm_step X.here [X.here.top, hx, hd, hm', hret, hn]
    first | (intro acts; rw [hr _ acts rfl rfl rfl]) | rw [hr _ _ rfl rfl rfl]
    exact Steps.refl _)
theorem own_retA {pc : Nat} {Ls : Array Slot} {v : Value} {t : FieldType} {rest : List Value} (X : Stand p l e R s m args below meth c T locs cells slots) (hx : p.tables.exec = Jvm.exec) (hlocks : meth.locks = false) (hret : meth.sig.returnType = some t) (ht : t.isReference = true) (hv : v.isRef = true)
    (hd : decode c.code pc = .ok (.areturn, 1)) (hq : Q (some v) T.heap locs) (hC : cells ≤ C) (hN : slots ≤ N) : oG p e below (own_P s Q C N) T (mkF m pc Ls (v :: rest)) :=
  own_ret X hlocks (fun h => by rw [hret] at h; cases h) hq hC hN (fun fs hr => by
    have hm' : T.vm.method? m = some meth := X.method'
    show Steps p.tables e below (T.setTop { method := m, pc := pc, locals := Ls, stack := _ :: rest, locked := none }) _
    jvm_step X.here [X.here.top, hx, hd, hm', hret, hv, ht]
    first | (intro acts; rw [hr _ acts rfl rfl rfl]) | rw [hr _ _ rfl rfl rfl]
    exact Steps.refl _)
theorem own_retV {pc : Nat} {Ls : Array Slot} (X : Stand p l e R s m args below meth c T locs cells slots) (hx : p.tables.exec = Jvm.exec) (hlocks : meth.locks = false) (hret : meth.sig.returnType = none)
    (hd : decode c.code pc = .ok (.return_, 1)) (hq : Q none T.heap locs) (hC : cells ≤ C) (hN : slots ≤ N) : oG p e below (own_P s Q C N) T (mkF m pc Ls []) :=
  own_ret X hlocks (fun _ => rfl) hq hC hN (fun fs hr => X.returnOut hx hret hd hr)
/-- a method's contract -/
def own_Met (l : Launch) (Z : State) (ws : List Cond) (y : MethodName) (bytes : ByteArray) (ml : Nat) (ret : Option FieldType) (rm : Room) (as' : Array Value) (h : Heap) (Q : Option Value → Heap → List Loc → Prop) : Prop :=
  MetFree l y (head1 (Cond.code y bytes ml ret :: ws) rm) (fun a U => a = as' ∧ Z.Warmed39 U.vm ∧ U.heap = h) (fun _ _ _ _ _ => True) (fun _ U o U' => ∃ v L, o = .returned v ∧ Q v U'.heap L ∧ FrameEnd U o U' L rm.cells rm.slots)
theorem own_body {ws : List Cond} {y : MethodName} {bytes : ByteArray} {ml : Nat} {ret : Option FieldType} {rm : Room} {as' : Array Value} (hpn : plainFor y = true)
    (body : ∀ (p : Program) (e : Env) (s : State) (m : MethodId) (below : List Frame) (meth : Method) (c : Code) (s₁ : State), p.tables.exec = Jvm.exec → c.code = bytes → c.maxLocals = ml → meth.sig.returnType = ret → meth.locks = false → s.vm.findClass y.cls = some m.cls → meth.name = y.name → Z.Warmed39 s.vm →
      Stand p l e rm s m as' below meth c s₁ [] 0 0 → s₁.heap = h → oG p e below (own_P s Q rm.cells rm.slots) s₁ (entryFrame m as' ml)) : own_Met l Z ws y bytes ml ret rm as' h Q := by
  refine MetFree.of_bodySF hpn hisR ?_
  intro p e s m args below meth c s₁ Bd hml0 hP hK
  obtain ⟨rfl, hZ, hh⟩ := hP
  exact body p e s m below meth c s₁ Bd.exec Bd.bytes hml0 Bd.returns Bd.notSynchronized (findClass_of_methodNamed Bd.named) (name_of_methodNamed Bd.named Bd.method).1 hZ (Stand.of_body Bd) (by rw [← hh, Bd.state]; rfl)
/-- a callee, as a call asks it -/
def own_Bk (l : Launch) (R : Room) (p : Program) (e : Env) (below : List Frame) (s : State) (args : Array Value) (y : MethodName) (len W : Nat) (as' : Array Value) (h : Heap) (kc ks : Nat) (Q : Option Value → Heap → List Loc → Prop) : Prop :=
  Back l R p e below s args y len W (fun A a => a = as' ∧ A.U.heap = h ∧ A.cells + kc ≤ R.cells ∧ A.slots + ks ≤ R.slots) (fun A _ v B => ∃ L, Q v B.U.heap L ∧ B.locs = A.locs ++ L ∧ B.cells = A.cells + kc ∧ B.slots = A.slots + ks)
theorem own_back {y : MethodName} {bytes : ByteArray} {maxL : Nat} {ret : Option FieldType} {rm : Room} {len W : Nat} {as' : Array Value} (hM : own_Met l Z [] y bytes maxL ret rm as' h Q) (hZ : Z.Warmed39 s.vm) (wc : (Cond.code y bytes maxL ret).before a0 Z = true) (wz : (Cond.initialized y.cls).before a0 Z = true) (hf : rm.frames + 1 ≤ R.frames) (hl : W + (maxL + 11) + rm.locals ≤ R.locals) :
    own_Bk l R p e below s args y len W as' h rm.cells rm.slots Q := backOf hM hZ wc wz hf hl
theorem own_callS (X : Stand p l e R s m args below meth c T locs cells slots) (hx : p.tables.exec = Jvm.exec) (hZ : Z.Warmed39 s.vm) {own : String} {index : Nat} {y : MethodName} {bytes : ByteArray} {maxL : Nat} {ret : Option FieldType} {W kc ks : Nat} {as' : Array Value}
    (hown : s.vm.findClass own = some m.cls) (w1 : (Cond.methodLink own index y).before a0 Z = true) (w2 : (Cond.static y).before a0 Z = true) (w3 : (Cond.initialized y.cls).before a0 Z = true) (w4 : (Cond.code y bytes maxL ret).before a0 Z = true)
    (hK : own_Bk l R p e below s args y 3 W as' h kc ks Q) (hy : y.cls ≠ "java/lang/invoke/MethodHandle" ∧ y.cls ≠ "java/lang/invoke/VarHandle") (hg : g.method = m) (hsize : g.locals.size = c.maxLocals) {argsL rest : List Value}
    (hlen : ∀ sig, parseMethodDescriptor y.desc = some sig → argsL.length = sig.parameters.length) (hstack : g.stack = argsL.reverse ++ rest) (hW : 2 * g.monitorRoom + (rest.map fun v => v.category).sum ≤ W) (hd : decode c.code g.pc = .ok (.invokestatic index, 3))
    (ha : argsL.toArray = as') (eT : T.heap = h) (hc : cells + kc ≤ R.cells) (hs : slots + ks ≤ R.slots)
    (k : ∀ v T' L, Stand p l e R s m args below meth c T' (locs ++ L) (cells + kc) (slots + ks) → Q v T'.heap L → oG p e below P T' { g with pc := g.pc + 3, stack := v.toList ++ rest }) : oG p e below P T g := by
  obtain ⟨v, _, ⟨T1, L1, k1, n1⟩, -, X1, ⟨Lc, hQ, l1, y1, z1⟩, st⟩ := Jvm.LawKit.callS X hx hown (mvT hZ w1) (mvT hZ w2) (mvT hZ w3) (mvT hZ w4) hy hK hg hsize hlen hstack hW hd (fun _ _ => ⟨ha, eT, hc, hs⟩)
  dsimp only [Pt.U, Pt.locs, Pt.cells, Pt.slots] at X1 l1 y1 z1 st hQ
  subst l1 y1 z1
  exact oS st (k v T1 Lc X1 hQ)
theorem own_callI (X : Stand p l e R s m args below meth c T locs cells slots) (hx : p.tables.exec = Jvm.exec) (hZ : Z.Warmed39 s.vm) {own : String} {index : Nat} {y : MethodName} {bytes : ByteArray} {maxL W kc ks : Nat} {as' : Array Value}
    (hy1 : y.name = "<init>") (hown : s.vm.findClass own = some m.cls) (w1 : (Cond.methodLink own index y).before a0 Z = true) (w2 : (Cond.instanceMethod y).before a0 Z = true) (w4 : (Cond.code y bytes maxL none).before a0 Z = true)
    (hK : own_Bk l R p e below s args y 3 W as' h kc ks Q) (hy : y.cls ≠ "java/lang/invoke/MethodHandle" ∧ y.cls ≠ "java/lang/invoke/VarHandle") (hg : g.method = m) (hsize : g.locals.size = c.maxLocals) {a : Addr} {argsL rest : List Value}
    (hlen : ∀ sig, parseMethodDescriptor y.desc = some sig → argsL.length = sig.parameters.length) (hstack : g.stack = argsL.reverse ++ .ref a :: rest) (hW : 2 * g.monitorRoom + (rest.map fun v => v.category).sum ≤ W) (hd : decode c.code g.pc = .ok (.invokespecial index, 3))
    (ha : (.ref a :: argsL).toArray = as') (eT : T.heap = h) (hc : cells + kc ≤ R.cells) (hs : slots + ks ≤ R.slots)
    (k : ∀ v T' L, Stand p l e R s m args below meth c T' (locs ++ L) (cells + kc) (slots + ks) → Q v T'.heap L → oG p e below P T' { g with pc := g.pc + 3, stack := v.toList ++ rest }) : oG p e below P T g := by
  obtain ⟨v, _, ⟨T1, L1, k1, n1⟩, -, X1, ⟨Lc, hQ, l1, y1, z1⟩, st⟩ := X.specialBack hx hy1 hown (mvT hZ w1) (mvT hZ w2) (mvT hZ w4) hy hK hg hsize (Steps.refl _) hlen hstack hW hd (fun _ _ => ⟨ha, eT, hc, hs⟩)
  dsimp only [Pt.U, Pt.locs, Pt.cells, Pt.slots] at X1 l1 y1 z1 st hQ
  subst l1 y1 z1
  exact own_tr st (k v T1 Lc X1 hQ)
theorem own_callV (X : Stand p l e R s m args below meth c T locs cells slots) (hx : p.tables.exec = Jvm.exec) (hZ : Z.Warmed39 s.vm) {own : String} {index : Nat} {y : MethodName} {W kc ks : Nat} {as' : Array Value}
    (hown : s.vm.findClass own = some m.cls) (w1 : (Cond.methodLink own index y).before a0 Z = true) (w2 : (Cond.declares y).before a0 Z = true) (w3 : (Cond.selects y.cls y y).before a0 Z = true) (w4 : (Cond.instanceMethod y).before a0 Z = true)
    (hK : own_Bk l R p e below s args y 3 W as' h kc ks Q) (hy : y.cls ≠ "java/lang/invoke/MethodHandle" ∧ y.cls ≠ "java/lang/invoke/VarHandle") {b : Addr} (E : Exa Z h b y.cls) (hg : g.method = m) (hsize : g.locals.size = c.maxLocals) {argsL rest : List Value}
    (hlen : ∀ sig, parseMethodDescriptor y.desc = some sig → argsL.length = sig.parameters.length) (hstack : g.stack = argsL.reverse ++ .ref b :: rest) (hW : 2 * g.monitorRoom + (rest.map fun v => v.category).sum ≤ W) (hd : decode c.code g.pc = .ok (.invokevirtual index, 3))
    (ha : (.ref b :: argsL).toArray = as') (eT : T.heap = h) (hc : cells + kc ≤ R.cells) (hs : slots + ks ≤ R.slots)
    (k : ∀ v T' L, Stand p l e R s m args below meth c T' (locs ++ L) (cells + kc) (slots + ks) → Q v T'.heap L → oG p e below P T' { g with pc := g.pc + 3, stack := v.toList ++ rest }) : oG p e below P T g := by
  obtain ⟨cq, kq, qa, qb, qc⟩ := isOf hZ eT E
  obtain ⟨v, _, ⟨T1, L1, k1, n1⟩, -, X1, ⟨Lc, hQ, l1, y1, z1⟩, st⟩ := X.virtualBack hx (y := y) (z := y) hown (mvT hZ w1) (mvT hZ w2) (notFace_of_selects (args := #[]) (mvT hZ w3)) (mvT hZ w3) (mvT hZ w4) hy hK qa qc hg hsize (Steps.refl _) hlen hstack hW hd (fun _ _ => ⟨ha, eT, hc, hs⟩)
  dsimp only [Pt.U, Pt.locs, Pt.cells, Pt.slots] at X1 l1 y1 z1 st hQ
  subst l1 y1 z1
  exact own_tr st (k v T1 Lc X1 hQ)
theorem own_Bk.mono {y : MethodName} {len W kc ks : Nat} {as' : Array Value} {Q' : Option Value → Heap → List Loc → Prop} (hK : own_Bk l R p e below s args y len W as' h kc ks Q) (q : ∀ v h' L, Q v h' L → Q' v h' L) : own_Bk l R p e below s args y len W as' h kc ks Q' :=
  Back.mono hK (fun _ _ h => h) (fun _ _ _ _ _ ⟨L, h1, h2⟩ => ⟨L, q _ _ _ h1, h2⟩)
theorem own_Bk.more {y : MethodName} {len W kc ks kc' ks' : Nat} {as' : Array Value} (hK : own_Bk l R p e below s args y len W as' h kc ks Q) (h1 : kc ≤ kc') (h2 : ks ≤ ks') : own_Bk l R p e below s args y len W as' h kc' ks' Q :=
  fun m meth c A g ig mk a X hg hsize hdg hW hn hp => by
    obtain ⟨v, B, X', ⟨L, q, q1, q2, q3⟩, st⟩ := hK m meth c A g ig mk a X hg hsize hdg hW hn ⟨hp.1, hp.2.1, Nat.le_trans (Nat.add_le_add_left h1 _) hp.2.2.1, Nat.le_trans (Nat.add_le_add_left h2 _) hp.2.2.2⟩
    exact ⟨v, ⟨B.U, B.locs, A.cells + kc', A.slots + ks'⟩, X'.mono (by rw [q2]; exact Nat.add_le_add_left h1 _) (by rw [q3]; exact Nat.add_le_add_left h2 _), ⟨L, q, q1, rfl, rfl⟩, st⟩
theorem oW {L : List Cond} (hw : ∀ d ∈ L, d.before a0 Z = true) (i : Nat) {d : Cond} (h : L[i]? = some d) : d.before a0 Z = true := hw d (List.mem_of_getElem? h)
theorem own_cat {v : Value} (h : v.isRef = true) : v.category = 1 := by cases v <;> simp [Value.isRef, Value.category] at h ⊢
end OwnGo
end Jvm.RoadKit
namespace Jvm.RoadKit
open Sem ClassFile Op Lib Bundle Jvm.Stand Jvm.Free Jvm.LawKit Jvm.Free.SB Jvm.Free.SBG
section OwnH
variable {p : Program} {l : Launch} {e : Env} {R : Room} {s : State} {m : MethodId} {args : Array Value} {below : List Frame} {meth : Method} {c : Code} {T T' : State} {f f' g : JFrame} {locs : List Loc} {cells slots : Nat} {P : Outcome → State → Prop} {Q : Option Value → Heap → List Loc → Prop} {C N : Nat} {Z : State} {a0 : Array Value} {h : Heap} {EL : List (String × Nat)} {vm0 : Vm} {k0 : Nat}
def own_PH (Z : State) (EL : List (String × Nat)) (s : State) (Q : Option Value → Heap → List Loc → Prop) (C N : Nat) (o : Outcome) (U' : State) : Prop := ∃ v L, o = .returned v ∧ Q v U'.heap L ∧ CHr Z EL s.vm s.heap U'.vm U'.heap ∧ ReturnedEndW s o U' L C N
/-- what a walk that may load literals knows: the tables now (vm0), how they came from the start's, the held literals -/
def own_Kn (Z : State) (EL : List (String × Nat)) (a0 : Array Value) (s : State) (vm0 : Vm) (h : Heap) : Prop := Z.Warmed39 vm0 ∧ EW Z a0 EL ∧ CHr Z EL s.vm s.heap vm0 h ∧ ∃ k0, s.Since vm0 k0 ∧ k0 ≤ h.size
theorem own_Kn.ext {h' : Heap} (K : own_Kn Z EL a0 s vm0 h) (E : Ext h h') : own_Kn Z EL a0 s vm0 h' := ⟨K.1, K.2.1, K.2.2.1.trans (CHr.ext E K.2.2.1.1), by obtain ⟨k0, q, r⟩ := K.2.2.2; exact ⟨k0, q, Nat.le_trans r E.1⟩⟩
theorem own_Kn.wr {h' : Heap} {a : Addr} {sl : Nat} {v : Value} (K : own_Kn Z EL a0 s vm0 h) (W : Wr h h' a sl v) (S : Safe Z EL vm0 h a) : own_Kn Z EL a0 s vm0 h' := ⟨K.1, K.2.1, K.2.2.1.trans (CHr.wr W S K.2.2.1.1), by obtain ⟨k0, q, r⟩ := K.2.2.2; exact ⟨k0, q, by rw [W.size]; exact r⟩⟩
theorem own_Kn.keep {h' : Heap} {ws : List Addr} (K : own_Kn Z EL a0 s vm0 h) (W : Keep h h' ws) (S : ∀ x ∈ ws, Safe Z EL vm0 h x) : own_Kn Z EL a0 s vm0 h' := ⟨K.1, K.2.1, K.2.2.1.trans (CHr.keep W S K.2.2.1.1), by obtain ⟨k0, q, r⟩ := K.2.2.2; exact ⟨k0, q, Nat.le_trans r W.1⟩⟩
theorem own_retH {v : Option Value} (X : Stand p l e R (s.setVm vm0) m args below meth c T locs cells slots) (K : own_Kn Z EL a0 s vm0 h) (eT : T.heap = h) (hlocks : meth.locks = false) (hv : meth.sig.returnType = none → v = none) (hq : Q v h locs) (hC : cells ≤ C) (hN : slots ≤ N)
    (hst : ∀ fs, (∀ (f : JFrame) (acts : List Action), f.method = m → f.locked = none → f.entered = [] → (doReturn e (T.setTop f) acts v).1 = T.setFrames fs) → Steps p.tables e below (T.setTop g) (T.setFrames fs)) : oG p e below (own_PH Z EL s Q C N) T g := by
  obtain ⟨hZ, hE, hR, k0, hS, hk⟩ := K
  subst eT
  obtain ⟨fs, hr, hrun, hended, hW⟩ := X.leaveW hS hk hv hlocks
  have q : CHr Z EL vm0 T.heap T.vm T.heap := CHv.at X hZ hE hR.1
  have q2 := hR.trans q
  exact ⟨_, _, hst fs hr, hrun, hended, _, _, rfl, hq, q2, hW.1, hW.2.1, hW.2.2.1, hW.2.2.2.mono hC hN⟩
theorem own_retHN {pc : Nat} {Ls : Array Slot} {z : Int32} {t : FieldType} {rest : List Value} (X : Stand p l e R (s.setVm vm0) m args below meth c T locs cells slots) (K : own_Kn Z EL a0 s vm0 h) (eT : T.heap = h) (hx : p.tables.exec = Jvm.exec) (hlocks : meth.locks = false) (hret : meth.sig.returnType = some t) (ht : t = .boolean ∨ t = .byte ∨ t = .char ∨ t = .short)
    (hd : decode c.code pc = .ok (.ireturn, 1)) (hq : Q (some (.int (nar t z))) h locs) (hC : cells ≤ C) (hN : slots ≤ N) : oG p e below (own_PH Z EL s Q C N) T (mkF m pc Ls (.int z :: rest)) :=
  own_retH X K eT hlocks (fun h => by rw [hret] at h; cases h) hq hC hN (fun fs hr => retN X hx hret ht hd hr)
theorem own_retHA {pc : Nat} {Ls : Array Slot} {v : Value} {t : FieldType} {rest : List Value} (X : Stand p l e R (s.setVm vm0) m args below meth c T locs cells slots) (K : own_Kn Z EL a0 s vm0 h) (eT : T.heap = h) (hx : p.tables.exec = Jvm.exec) (hlocks : meth.locks = false) (hret : meth.sig.returnType = some t) (ht : t.isReference = true) (hv : v.isRef = true)
    (hd : decode c.code pc = .ok (.areturn, 1)) (hq : Q (some v) h locs) (hC : cells ≤ C) (hN : slots ≤ N) : oG p e below (own_PH Z EL s Q C N) T (mkF m pc Ls (v :: rest)) :=
  own_retH X K eT hlocks (fun h => by rw [hret] at h; cases h) hq hC hN (fun fs hr => by
    have hm' : T.vm.method? m = some meth := X.method'
    show Steps p.tables e below (T.setTop { method := m, pc := pc, locals := Ls, stack := _ :: rest, locked := none }) _
    jvm_step X.here [X.here.top, hx, hd, hm', hret, hv, ht]
    first | (intro acts; rw [hr _ acts rfl rfl rfl]) | rw [hr _ _ rfl rfl rfl]
    exact Steps.refl _)
theorem own_retHV {pc : Nat} {Ls : Array Slot} (X : Stand p l e R (s.setVm vm0) m args below meth c T locs cells slots) (K : own_Kn Z EL a0 s vm0 h) (eT : T.heap = h) (hx : p.tables.exec = Jvm.exec) (hlocks : meth.locks = false) (hret : meth.sig.returnType = none)
    (hd : decode c.code pc = .ok (.return_, 1)) (hq : Q none h locs) (hC : cells ≤ C) (hN : slots ≤ N) : oG p e below (own_PH Z EL s Q C N) T (mkF m pc Ls []) :=
  own_retH X K eT hlocks (fun _ => rfl) hq hC hN (fun fs hr => X.returnOut hx hret hd hr)
def own_MetH (l : Launch) (Z : State) (EL : List (String × Nat)) (ws : List Cond) (y : MethodName) (bytes : ByteArray) (ml : Nat) (ret : Option FieldType) (rm : Room) (as' : Array Value) (h : Heap) (Q : Option Value → Heap → List Loc → Prop) (Pv : Vm → Prop) : Prop :=
  MetFree l y (head1 (Cond.code y bytes ml ret :: ws) rm) (fun a U => a = as' ∧ Z.Warmed39 U.vm ∧ U.heap = h ∧ CHv Z EL U.vm h ∧ Pv U.vm) (fun _ _ _ _ _ => True) (fun _ U o U' => ∃ v L, o = .returned v ∧ Q v U'.heap L ∧ CHr Z EL U.vm U.heap U'.vm U'.heap ∧ ReturnedEndW U o U' L rm.cells rm.slots)
theorem own_bodyH {ws : List Cond} {y : MethodName} {bytes : ByteArray} {ml : Nat} {ret : Option FieldType} {rm : Room} {as' : Array Value} {Pv : Vm → Prop} (hpn : plainFor y = true) (hE : EW Z a0 EL)
    (body : ∀ (p : Program) (e : Env) (s : State) (m : MethodId) (below : List Frame) (meth : Method) (c : Code) (s₁ : State), p.tables.exec = Jvm.exec → c.code = bytes → c.maxLocals = ml → meth.sig.returnType = ret → meth.locks = false → s.vm.findClass y.cls = some m.cls → meth.name = y.name →
      Stand p l e rm (s.setVm s.vm) m as' below meth c s₁ [] 0 0 → s₁.heap = h → own_Kn Z EL a0 s s.vm h → Pv s.vm → oG p e below (own_PH Z EL s Q rm.cells rm.slots) s₁ (entryFrame m as' ml)) : own_MetH l Z EL ws y bytes ml ret rm as' h Q Pv := by
  refine MetFree.of_bodySF hpn hisR ?_
  intro p e s m args below meth c s₁ Bd hml0 hP hK
  obtain ⟨rfl, hZ, hh, hC, hv⟩ := hP
  subst hh
  exact body p e s m below meth c s₁ Bd.exec Bd.bytes hml0 Bd.returns Bd.notSynchronized (findClass_of_methodNamed Bd.named) (name_of_methodNamed Bd.named Bd.method).1 (Stand.of_body Bd) (by rw [Bd.state]; rfl) ⟨hZ, hE, CHr.refl hC, _, (State.WarmedH.refl s).since _, Nat.le_refl _⟩ hv
def own_BkH (Z : State) (EL : List (String × Nat)) (l : Launch) (R : Room) (p : Program) (e : Env) (below : List Frame) (s : State) (vm0 : Vm) (args : Array Value) (y : MethodName) (len W : Nat) (as' : Array Value) (h : Heap) (kc ks : Nat) (Q : Option Value → Heap → List Loc → Prop) : Prop :=
  BackS l R p e below (s.setVm vm0) args y len W (fun A a => a = as' ∧ A.U.heap = h ∧ A.cells + kc ≤ R.cells ∧ A.slots + ks ≤ R.slots) (fun A _ v B => ∃ L, Q v B.U.heap L ∧ B.locs = A.locs ++ L ∧ B.cells = A.cells + kc ∧ B.slots = A.slots + ks ∧ CHr Z EL vm0 h B.U.vm B.U.heap)
theorem own_backH {y : MethodName} {bytes : ByteArray} {maxL : Nat} {ret : Option FieldType} {rm : Room} {len W : Nat} {as' : Array Value} {Pv : Vm → Prop} (hM : own_MetH l Z EL [] y bytes maxL ret rm as' h Q Pv) (K : own_Kn Z EL a0 s vm0 h) (hv : ∀ vm', CHr Z EL vm0 h vm' h → Pv vm')
    (wc : (Cond.code y bytes maxL ret).before a0 Z = true) (wz : (Cond.initialized y.cls).before a0 Z = true) (hf : rm.frames + 1 ≤ R.frames) (hl : W + (maxL + 11) + rm.locals ≤ R.locals) : own_BkH Z EL l R p e below s vm0 args y len W as' h rm.cells rm.slots Q := by
  obtain ⟨hZ, hEL, hR, -⟩ := K
  have H := hR.1
  exact BackS.of_freeW (bytes := bytes) (maxL := maxL) (ret := ret) (E := fun _ first o t L k n => k = rm.cells ∧ n = rm.slots ∧ (∃ v, o = .returned v ∧ Q v t.heap L) ∧ CHr Z EL first.vm first.heap t.vm t.heap) hM hf hl
    (fun m meth c A a Y hp => have hU : Z.Warmed39 A.U.vm := wtrans (s := s.setVm vm0) hZ Y.warmed
      ⟨by show (Cond.and _ .tt).before a A.U = true; rw [Cond.before_and, mv hU wc]; rfl, mv hU wc, mv hU wz, hp.2.2.1, hp.2.2.2⟩)
    (fun m meth c A a g mk Y hp => have q : CHr Z EL vm0 h A.U.vm h := CHv.at Y hZ hEL H
      have q' := hv A.U.vm q
      ⟨hp.1, wtrans (s := s.setVm vm0) hZ Y.warmed, hp.2.1, q.1, q'⟩) (fun _ _ _ _ _ _ _ _ _ => trivial)
    (fun _ _ _ _ ⟨v, L, h1, h2, h3, h4⟩ => ⟨L, _, _, h4, rfl, rfl, ⟨v, h1, h2⟩, h3⟩)
    (fun m meth c A a g mk v t L k n Y hp _ _ ⟨e1, e2, ⟨v', e3, e4⟩, e5⟩ => by
      cases e3; subst e1 e2
      refine ⟨L, e4, rfl, rfl, rfl, (CHv.at Y hZ hEL H).trans ?_⟩
      rw [← hp.2.1]; exact e5)
theorem own_Kn.call {own : String} {mc : ClassId} {T' : State} (K : own_Kn Z EL a0 s vm0 T.heap) (hown : vm0.findClass own = some mc) (h2 : (s.setVm vm0).Since T'.vm T'.heap.size) (g : T.heap.size ≤ T'.heap.size) (q : CHr Z EL vm0 T.heap T'.vm T'.heap) : own_Kn Z EL a0 s T'.vm T'.heap ∧ T'.vm.findClass own = some mc := by
  obtain ⟨hZ, hEL, hR, k0, hS, hk⟩ := K
  exact ⟨⟨State.Warmed39.trans (t := s.setVm vm0) hZ h2.1, hEL, hR.trans q, _, foldS hS hk h2 g, Nat.le_refl _⟩, by rw [h2.1.alike.findClass]; exact hown⟩
theorem own_callSH (X : Stand p l e R (s.setVm vm0) m args below meth c T locs cells slots) (hx : p.tables.exec = Jvm.exec) (K : own_Kn Z EL a0 s vm0 h) {own : String} {index : Nat} {y : MethodName} {bytes : ByteArray} {maxL : Nat} {ret : Option FieldType} {W kc ks : Nat} {as' : Array Value}
    (hown : vm0.findClass own = some m.cls) (w1 : (Cond.methodLink own index y).before a0 Z = true) (w2 : (Cond.static y).before a0 Z = true) (w3 : (Cond.initialized y.cls).before a0 Z = true) (w4 : (Cond.code y bytes maxL ret).before a0 Z = true)
    (hK : own_BkH Z EL l R p e below s vm0 args y 3 W as' h kc ks Q) (hy : y.cls ≠ "java/lang/invoke/MethodHandle" ∧ y.cls ≠ "java/lang/invoke/VarHandle") (hg : g.method = m) (hsize : g.locals.size = c.maxLocals) {argsL rest : List Value}
    (hlen : ∀ sig, parseMethodDescriptor y.desc = some sig → argsL.length = sig.parameters.length) (hstack : g.stack = argsL.reverse ++ rest) (hW : 2 * g.monitorRoom + (rest.map fun v => v.category).sum ≤ W) (hd : decode c.code g.pc = .ok (.invokestatic index, 3))
    (ha : argsL.toArray = as') (eT : T.heap = h) (hc : cells + kc ≤ R.cells) (hs : slots + ks ≤ R.slots)
    (k : ∀ v T' L, Stand p l e R (s.setVm T'.vm) m args below meth c T' (locs ++ L) (cells + kc) (slots + ks) → Q v T'.heap L → own_Kn Z EL a0 s T'.vm T'.heap → T'.vm.findClass own = some m.cls → CHr Z EL vm0 h T'.vm T'.heap → oG p e below P T' { g with pc := g.pc + 3, stack := v.toList ++ rest }) : oG p e below P T g := by
  have hZ : Z.Warmed39 (s.setVm vm0).vm := K.1
  obtain ⟨v, _, ⟨T1, L1, k1, n1⟩, -, X1, S1, G1, ⟨Lc, hQ, l1, y1, z1, hR⟩, st⟩ := callSS X hx hown (mvT hZ w1) (mvT hZ w2) (mvT hZ w3) (mvT hZ w4) hy hK hg hsize hlen hstack hW hd (fun _ _ => ⟨ha, eT, hc, hs⟩)
  dsimp only [Pt.U, Pt.locs, Pt.cells, Pt.slots] at X1 l1 y1 z1 st hQ S1 G1 hR
  subst l1 y1 z1 eT
  obtain ⟨q1, q2⟩ := K.call hown S1 G1 hR
  exact own_tr st (k v T1 Lc X1 hQ q1 q2 hR)
theorem own_callIH (X : Stand p l e R (s.setVm vm0) m args below meth c T locs cells slots) (hx : p.tables.exec = Jvm.exec) (K : own_Kn Z EL a0 s vm0 h) {own : String} {index : Nat} {y : MethodName} {bytes : ByteArray} {maxL W kc ks : Nat} {as' : Array Value}
    (hy1 : y.name = "<init>") (hown : vm0.findClass own = some m.cls) (w1 : (Cond.methodLink own index y).before a0 Z = true) (w2 : (Cond.instanceMethod y).before a0 Z = true) (w4 : (Cond.code y bytes maxL none).before a0 Z = true)
    (hK : own_BkH Z EL l R p e below s vm0 args y 3 W as' h kc ks Q) (hy : y.cls ≠ "java/lang/invoke/MethodHandle" ∧ y.cls ≠ "java/lang/invoke/VarHandle") (hg : g.method = m) (hsize : g.locals.size = c.maxLocals) {a : Addr} {argsL rest : List Value}
    (hlen : ∀ sig, parseMethodDescriptor y.desc = some sig → argsL.length = sig.parameters.length) (hstack : g.stack = argsL.reverse ++ .ref a :: rest) (hW : 2 * g.monitorRoom + (rest.map fun v => v.category).sum ≤ W) (hd : decode c.code g.pc = .ok (.invokespecial index, 3))
    (ha : (.ref a :: argsL).toArray = as') (eT : T.heap = h) (hc : cells + kc ≤ R.cells) (hs : slots + ks ≤ R.slots)
    (k : ∀ v T' L, Stand p l e R (s.setVm T'.vm) m args below meth c T' (locs ++ L) (cells + kc) (slots + ks) → Q v T'.heap L → own_Kn Z EL a0 s T'.vm T'.heap → T'.vm.findClass own = some m.cls → CHr Z EL vm0 h T'.vm T'.heap → oG p e below P T' { g with pc := g.pc + 3, stack := v.toList ++ rest }) : oG p e below P T g := by
  have hZ : Z.Warmed39 (s.setVm vm0).vm := K.1
  obtain ⟨v, _, ⟨T1, L1, k1, n1⟩, -, X1, S1, G1, ⟨Lc, hQ, l1, y1, z1, hR⟩, st⟩ := X.specialBackS hx hy1 hown (mvT hZ w1) (mvT hZ w2) (mvT hZ w4) hy hK hg hsize (Steps.refl _) hlen hstack hW hd (fun _ _ => ⟨ha, eT, hc, hs⟩)
  dsimp only [Pt.U, Pt.locs, Pt.cells, Pt.slots] at X1 l1 y1 z1 st hQ S1 G1 hR
  subst l1 y1 z1 eT
  obtain ⟨q1, q2⟩ := K.call hown S1 G1 hR
  exact own_tr st (k v T1 Lc X1 hQ q1 q2 hR)
theorem own_callVH (X : Stand p l e R (s.setVm vm0) m args below meth c T locs cells slots) (hx : p.tables.exec = Jvm.exec) (K : own_Kn Z EL a0 s vm0 h) {own : String} {index : Nat} {y : MethodName} {W kc ks : Nat} {as' : Array Value}
    (hown : vm0.findClass own = some m.cls) (w1 : (Cond.methodLink own index y).before a0 Z = true) (w2 : (Cond.declares y).before a0 Z = true) (w3 : (Cond.selects y.cls y y).before a0 Z = true) (w4 : (Cond.instanceMethod y).before a0 Z = true)
    (hK : own_BkH Z EL l R p e below s vm0 args y 3 W as' h kc ks Q) (hy : y.cls ≠ "java/lang/invoke/MethodHandle" ∧ y.cls ≠ "java/lang/invoke/VarHandle") {b : Addr} (E : Exa Z h b y.cls) (hg : g.method = m) (hsize : g.locals.size = c.maxLocals) {argsL rest : List Value}
    (hlen : ∀ sig, parseMethodDescriptor y.desc = some sig → argsL.length = sig.parameters.length) (hstack : g.stack = argsL.reverse ++ .ref b :: rest) (hW : 2 * g.monitorRoom + (rest.map fun v => v.category).sum ≤ W) (hd : decode c.code g.pc = .ok (.invokevirtual index, 3))
    (ha : (.ref b :: argsL).toArray = as') (eT : T.heap = h) (hc : cells + kc ≤ R.cells) (hs : slots + ks ≤ R.slots)
    (k : ∀ v T' L, Stand p l e R (s.setVm T'.vm) m args below meth c T' (locs ++ L) (cells + kc) (slots + ks) → Q v T'.heap L → own_Kn Z EL a0 s T'.vm T'.heap → T'.vm.findClass own = some m.cls → CHr Z EL vm0 h T'.vm T'.heap → oG p e below P T' { g with pc := g.pc + 3, stack := v.toList ++ rest }) : oG p e below P T g := by
  have hZ : Z.Warmed39 (s.setVm vm0).vm := K.1
  obtain ⟨cq, kq, qa, qb, qc⟩ := isOf hZ eT E
  obtain ⟨v, _, ⟨T1, L1, k1, n1⟩, -, X1, S1, G1, ⟨Lc, hQ, l1, y1, z1, hR⟩, st⟩ := X.virtualBackS hx (y := y) (z := y) hown (mvT hZ w1) (mvT hZ w2) (notFace_of_selects (args := #[]) (mvT hZ w3)) (mvT hZ w3) (mvT hZ w4) hy hK qa qc hg hsize (Steps.refl _) hlen hstack hW hd (fun _ _ => ⟨ha, eT, hc, hs⟩)
  dsimp only [Pt.U, Pt.locs, Pt.cells, Pt.slots] at X1 l1 y1 z1 st hQ S1 G1 hR
  subst l1 y1 z1 eT
  obtain ⟨q1, q2⟩ := K.call hown S1 G1 hR
  exact own_tr st (k v T1 Lc X1 hQ q1 q2 hR)
theorem own_ldc (X : Stand p l e R (s.setVm vm0) m args below meth c T locs cells slots) (hx : p.tables.exec = Jvm.exec) (K : own_Kn Z EL a0 s vm0 h) {own text : String} {index : Nat} (hown : vm0.findClass own = some m.cls) (w : (Cond.stringLink own index text).before a0 Z = true) (wS : ∀ a ∈ Bundle.stringAtoms, a.before a0 Z = true)
    (eT : T.heap = h) (hmem : (own, index) ∈ EL) {vs : List Value} {z : Int32} (ht : (∀ c ∈ text.toList, c.toNat < 256) ∧ text.toList.map (fun c => Value.int (Jvm.Lit.byteI c.toNat.toUInt16)) = vs) (hz : ¬ z < 0) (hl : z.toNatClampNeg = vs.length)
    (hg : g.method = m) (hd : decode c.code g.pc = .ok (.ldc index, 2)) {n : Nat} (hn : 4 * text.toList.length ≤ n) (hbig : n ≤ 536870912) (hc : cells + 2 ≤ R.cells) (hl' : slots + (n + 4) ≤ R.slots)
    (k : ∀ (a : Addr) (T' : State) (b : Addr) (kb : ClassId), Stand p l e R (s.setVm T'.vm) m args below meth c T' locs (cells + 2) (slots + (n + 4)) → Ext h T'.heap → own_Kn Z EL a0 s T'.vm T'.heap → T'.vm.findClass own = some m.cls → CHr Z EL vm0 h T'.vm T'.heap →
      Exa Z T'.heap a "java/lang/String" → Fld Z T'.heap a "java/lang/String" "coder" "B" (.int 0) → Fld Z T'.heap a "java/lang/String" "value" "[B" (.ref b) → Arv Z T'.heap b kb .byte z vs (.int 0) → (∀ x, Safe Z EL T'.vm T'.heap x → x ≠ a ∧ x ≠ b) → oG p e below P T' { g with pc := g.pc + 2, stack := .ref a :: g.stack }) : oG p e below P T g := by
  obtain ⟨hZ, hEL, hR, k0, hS, hk⟩ := K
  obtain ⟨a, T', h', k1, b, kb, X', e', E', S', hk', hZ', hown', A1, A2, A3, A4, -, -, R', -, sf, st⟩ := ldcCH X hx hZ hown w wS eT hS hk hEL hmem hR.1 ht hz hl hg hd hn hbig hc hl'
  subst e'
  exact oS st (k a T' b kb X' E' ⟨hZ', hEL, hR.trans R', _, S', hk'⟩ hown' R' A1 A2 A3 A4 sf)
end OwnH
end Jvm.RoadKit
/- laws to paste: Road.backV, Road.lenW, Road.chN, Road.empW, Road.codOf (cut by pick.py; bodies as the Statement names them) -/
namespace Jvm.Pilot.@@N@@
namespace StrChars
open Jvm Sem ClassFile Op Lib Jvm.Stand Jvm.Free.XT Jvm.Free.ALB Jvm.Free.JM Jvm.Free
open Jvm.Lib.Cold (StaticIs)
/-- a char array whose places are chars -/
def Ch (a : Addr) (A : Cell) (U : State) : Prop := Arr .char a A U ∧ Typed .char A
theorem Ch.mv {a : Addr} {A : Cell} {U U' : State} (h : Ch a A U) (hal : U.vm.Alike U'.vm) (hh : U'.heap = U.heap) : Ch a A U' := ⟨h.1.mv hal hh, h.2⟩
theorem Ch.keep {a : Addr} {A : Cell} {U U' : State} (h : Ch a A U) (hal : U.vm.Alike U'.vm) (hk : U'.heap[a]? = some A) : Ch a A U' := ⟨h.1.keep hal hk, h.2⟩
/-- what place i of a char[]'s cell holds -/
def cv (A : Cell) (i : Nat) : Int32 := match A.slots[i]? with | some (.int x) => x | _ => 0
theorem Ch.get {a : Addr} {A : Cell} {U : State} (h : Ch a A U) {i : Nat} (hi : i < A.slots.size) : A.slots[i]? = some (.int (cv A i)) := by
  have e := Array.getElem?_eq_getElem hi
  have f := h.2 i _ e
  unfold cv; rw [e]
  generalize A.slots[i] = v at f
  cases v <;> simp [fits] at f ⊢
/-- the byte that i2b leaves of a char -/
def lo8 (x : Int32) : Int32 := x.toInt8.toInt32
theorem fits_lo8 (y : Int32) : fits .byte (.int (lo8 y)) = true := by
  have h1 := y.toInt8.le_toInt
  have h2 := y.toInt8.toInt_lt
  simp only [lo8, fits, Bool.and_eq_true, decide_eq_true_eq, Int32.le_iff_toInt_le, Int8.toInt_toInt32, show (-128 : Int32).toInt = -128 from by decide, show (127 : Int32).toInt = 127 from by decide]
  omega
/-- A' is A but that each place j of lo .. hi - 1 holds f j -/
def Laid (A A' : Cell) (lo hi : Nat) (f : Nat → Value) : Prop := A'.cls = A.cls ∧ A'.vm = A.vm ∧ A'.slots.size = A.slots.size ∧ ∀ i, A'.slots[i]? = if lo ≤ i ∧ i < hi then some (f i) else A.slots[i]?
theorem Laid.zero (A : Cell) (lo : Nat) (f : Nat → Value) : Laid A A lo (lo + 0) f := ⟨rfl, rfl, rfl, fun i => by rw [if_neg (by omega)]⟩
theorem Laid.step {A Ak : Cell} {lo k : Nat} {f : Nat → Value} {v : Value} (h : Laid A Ak lo k f) (hlo : lo ≤ k) (hk : k < Ak.slots.size) (hv : v = f k) : Laid A (Ak.setSlot k v) lo (k + 1) f := by
  refine ⟨h.1, h.2.1, by simpa [Cell.setSlot] using h.2.2.1, fun i => ?_⟩
  by_cases e : k = i
  · subst e; rw [Cell.slots_setSlot_self v hk, if_pos (by omega), hv]
  · rw [Cell.slots_setSlot_ne v e, h.2.2.2 i]
    by_cases q : lo ≤ i ∧ i < k
    · rw [if_pos q, if_pos (by omega)]
    · rw [if_neg q, if_neg (by omega)]
def U16 : String := "java/lang/StringUTF16"
namespace Cmp5
def yN : MethodName := ⟨"java/lang/StringUTF16", "compress", "([CI[BII)I"⟩
abbrev yB : ByteArray := jdk_52_method_21_code
theorem d0 : decode yB 0 = .ok (.iconst 0, 1) := by decide +kernel
theorem d1 : decode yB 1 = .ok (.istore 5, 2) := by decide +kernel
theorem d3 : decode yB 3 = .ok (.iload 5, 2) := by decide +kernel
theorem d5 : decode yB 5 = .ok (.iload 4, 2) := by decide +kernel
theorem d7 : decode yB 7 = .ok (.if_icmp (.ge) 37, 3) := by decide +kernel
theorem d10 : decode yB 10 = .ok (.aload_n 0, 1) := by decide +kernel
theorem d11 : decode yB 11 = .ok (.iload_n 1, 1) := by decide +kernel
theorem d12 : decode yB 12 = .ok (.caload, 1) := by decide +kernel
theorem d13 : decode yB 13 = .ok (.istore 6, 2) := by decide +kernel
theorem d15 : decode yB 15 = .ok (.iload 6, 2) := by decide +kernel
theorem d17 : decode yB 17 = .ok (.sipush 255, 3) := by decide +kernel
theorem d20 : decode yB 20 = .ok (.if_icmp (.le) 6, 3) := by decide +kernel
theorem d26 : decode yB 26 = .ok (.aload_n 2, 1) := by decide +kernel
theorem d27 : decode yB 27 = .ok (.iload_n 3, 1) := by decide +kernel
theorem d28 : decode yB 28 = .ok (.iload 6, 2) := by decide +kernel
theorem d30 : decode yB 30 = .ok (.i2b, 1) := by decide +kernel
theorem d31 : decode yB 31 = .ok (.bastore, 1) := by decide +kernel
theorem d32 : decode yB 32 = .ok (.iinc 1 1, 3) := by decide +kernel
theorem d35 : decode yB 35 = .ok (.iinc 3 1, 3) := by decide +kernel
theorem d38 : decode yB 38 = .ok (.iinc 5 1, 3) := by decide +kernel
theorem d41 : decode yB 41 = .ok (.goto (-38), 3) := by decide +kernel
theorem d44 : decode yB 44 = .ok (.iload 4, 2) := by decide +kernel
theorem d46 : decode yB 46 = .ok (.ireturn, 1) := by decide +kernel
def site : List Cond := []
def tab : Cond := tabOf yN yB 7 (some .int) site
def P (b : Addr) (A : Cell) (d : Addr) (B : Cell) (o q len : Nat) (args : Array Value) (s : State) : Prop := args = #[.ref b, .int (Int32.ofNat o), .ref d, .int (Int32.ofNat q), .int (Int32.ofNat len)] ∧ Ch b A s ∧ Arr .byte d B s ∧ b ≠ d ∧ o + len ≤ A.slots.size ∧ q + len ≤ B.slots.size ∧ ∀ i, i < len → ¬ 255 < cv A (o + i)
def E (b : Addr) (A : Cell) (d : Addr) (B : Cell) (o q len : Nat) (r : Option Value) (s u : State) : Prop := r = some (.int (Int32.ofNat len)) ∧ ∃ B', Put d B' s u ∧ Laid B B' q (q + len) (fun j => Value.int (lo8 (cv A (o + (j - q)))))
/-- no char of the range above 255: len; the places written hold each char's low byte -/
theorem law (l : Launch) (b : Addr) (A : Cell) (d : Addr) (B : Cell) (o q len : Nat) : Law l yN 5 5 0 0 yB 7 (some .int) site (P b A d B o q len) (E b A d B o q len) (copyLocs d q len) 0 0 := by
  refine Law.of_walk (plainFor_of_name (by decide +kernel)) (by decide +kernel) (by decide +kernel) (by decide) (fun _ _ h => by rw [h.1]; rfl) (fun _ U U' hal hh h => ⟨h.1, h.2.1.mv hal hh, h.2.2.1.mv hal hh, h.2.2.2⟩) (fun r U U' V V' h1 hal h2 h => ⟨h.1, h.2.elim fun B' q => ⟨B', q.1.mv h1 h2, q.2⟩⟩) ?_
  intro p e s m args below meth c s₁ X0 hexec hbytes hml hret hlk hnm hown hh0 W hP
  obtain ⟨rfl, hA, hB, hne, l1, l2, hp⟩ := hP
  have c1 : Steps p.tables e below (s₁.setTop (entryFrame m #[.ref b, .int (Int32.ofNat o), .ref d, .int (Int32.ofNat q), .int (Int32.ofNat len)] 7)) (s₁.setTop (mkF m 0 #[.val (.ref b), .val (.int (Int32.ofNat o)), .val (.ref d), .val (.int (Int32.ofNat q)), .val (.int (Int32.ofNat len)), .unset, .unset] [])) := entry rfl
  have hA0 := hA.1.mv X0.warmed.alike hh0
  have hB0 := hB.mv X0.warmed.alike hh0
  have a31 := hA.1.2.2.2
  have c2 : Steps p.tables e below (s₁.setTop (entryFrame m #[.ref b, .int (Int32.ofNat o), .ref d, .int (Int32.ofNat q), .int (Int32.ofNat len)] 7)) (s₁.setTop (mkF m 3 #[.val (.ref b), .val (.int (Int32.ofNat o)), .val (.ref d), .val (.int (Int32.ofNat q)), .val (.int (Int32.ofNat len)), .val (.int 0), .unset] [])) := c1.trans (by
    refine iconstV X0.here hexec rfl 0 (hb hbytes d0) (by decide) ?_
    refine XS.istore X0.here hexec rfl (hb hbytes d1) rfl rfl ?_
    exact Steps.refl _)
  have loop : ∀ (r i : Nat), i + r = len → ∀ (z : Slot), (z = .unset ∨ ∃ w, z = .val w ∧ w.category = 1) → ∀ (Tl : State) (Bk : Cell), Stand p l e { frames := 0, locals := 0, cells := 0, slots := 0 } s m #[.ref b, .int (Int32.ofNat o), .ref d, .int (Int32.ofNat q), .int (Int32.ofNat len)] below meth c Tl ([] ++ copyLocs d q i) 0 0 → Put d Bk s₁ Tl → Laid B Bk q (q + i) (fun j => Value.int (lo8 (cv A (o + (j - q))))) →
      Steps p.tables e below (s₁.setTop (entryFrame m #[.ref b, .int (Int32.ofNat o), .ref d, .int (Int32.ofNat q), .int (Int32.ofNat len)] 7)) (Tl.setTop (mkF m 3 #[.val (.ref b), .val (.int (Int32.ofNat (o + i))), .val (.ref d), .val (.int (Int32.ofNat (q + i))), .val (.int (Int32.ofNat len)), .val (.int (Int32.ofNat i)), z] [])) → ∃ (T' : State) (B' : Cell) (z' : Slot), Stand p l e { frames := 0, locals := 0, cells := 0, slots := 0 } s m #[.ref b, .int (Int32.ofNat o), .ref d, .int (Int32.ofNat q), .int (Int32.ofNat len)] below meth c T' ([] ++ copyLocs d q len) 0 0 ∧ Put d B' s₁ T' ∧ Laid B B' q (q + len) (fun j => Value.int (lo8 (cv A (o + (j - q))))) ∧
      Steps p.tables e below (s₁.setTop (entryFrame m #[.ref b, .int (Int32.ofNat o), .ref d, .int (Int32.ofNat q), .int (Int32.ofNat len)] 7)) (T'.setTop (mkF m 3 #[.val (.ref b), .val (.int (Int32.ofNat (o + len))), .val (.ref d), .val (.int (Int32.ofNat (q + len))), .val (.int (Int32.ofNat len)), .val (.int (Int32.ofNat len)), z'] [])) := by
    intro r
    induction r with
    | zero =>
      intro i hi z hz Tl Bk Xl pl fl cl
      have hil : i = len := by omega
      rw [hil] at Xl fl cl
      exact ⟨Tl, Bk, z, Xl, pl, fl, cl⟩
    | succ r ih =>
      intro i hi z hz Tl Bk Xl pl fl cl
      have all := X0.warmed.alike.symm.trans Xl.warmed.alike
      have hAl := hA0.keep all (pl.other hne hA0.1)
      have hBk := hB0.like all pl.1 fl.1 fl.2.1 fl.2.2.1
      have hlt : q + i < Bk.slots.size := by rw [fl.2.2.1]; omega
      have c3 : Steps p.tables e below (s₁.setTop (entryFrame m #[.ref b, .int (Int32.ofNat o), .ref d, .int (Int32.ofNat q), .int (Int32.ofNat len)] 7)) (Tl.setTop (mkF m 12 #[.val (.ref b), .val (.int (Int32.ofNat (o + i))), .val (.ref d), .val (.int (Int32.ofNat (q + i))), .val (.int (Int32.ofNat len)), .val (.int (Int32.ofNat i)), z] [.int (Int32.ofNat (o + i)), .ref b])) := cl.trans (by
        refine XS.iload Xl.here hexec rfl (hb hbytes d3) rfl ?_
        refine XS.iload Xl.here hexec rfl (hb hbytes d5) rfl ?_
        refine XS.icmpNo Xl.here hexec rfl (hb hbytes d7) rfl (ii_ge_f (lt32 (by omega) (by omega))) ?_
        refine XS.aloadN Xl.here hexec rfl (hb hbytes d10) rfl rfl ?_
        refine XS.iloadN Xl.here hexec rfl (hb hbytes d11) rfl ?_
        exact Steps.refl _)
      have c4 : Steps p.tables e below (s₁.setTop (entryFrame m #[.ref b, .int (Int32.ofNat o), .ref d, .int (Int32.ofNat q), .int (Int32.ofNat len)] 7)) (Tl.setTop (mkF m 13 #[.val (.ref b), .val (.int (Int32.ofNat (o + i))), .val (.ref d), .val (.int (Int32.ofNat (q + i))), .val (.int (Int32.ofNat len)), .val (.int (Int32.ofNat i)), z] [.int (cv A (o + i))])) := c3.trans (by
        refine Xl.aget hexec hAl rfl (hA.get (i := o + i) (by omega)) rfl rfl (hb hbytes d12) ?_
        exact Steps.refl _)
      have c5 : Steps p.tables e below (s₁.setTop (entryFrame m #[.ref b, .int (Int32.ofNat o), .ref d, .int (Int32.ofNat q), .int (Int32.ofNat len)] 7)) (Tl.setTop (mkF m 15 #[.val (.ref b), .val (.int (Int32.ofNat (o + i))), .val (.ref d), .val (.int (Int32.ofNat (q + i))), .val (.int (Int32.ofNat len)), .val (.int (Int32.ofNat i)), .val (.int (cv A (o + i)))] [])) := c4.trans (by
        refine XS.istoreS Xl.here hexec rfl (hb hbytes d13) rfl rfl hz ?_
        exact Steps.refl _)
      have c6 : Steps p.tables e below (s₁.setTop (entryFrame m #[.ref b, .int (Int32.ofNat o), .ref d, .int (Int32.ofNat q), .int (Int32.ofNat len)] 7)) (Tl.setTop (mkF m 31 #[.val (.ref b), .val (.int (Int32.ofNat (o + i))), .val (.ref d), .val (.int (Int32.ofNat (q + i))), .val (.int (Int32.ofNat len)), .val (.int (Int32.ofNat i)), .val (.int (cv A (o + i)))] [.int (lo8 (cv A (o + i))), .int (Int32.ofNat (q + i)), .ref d])) := c5.trans (by
        refine XS.iload Xl.here hexec rfl (hb hbytes d15) rfl ?_
        refine sipushV Xl.here hexec rfl 255 (hb hbytes d17) (by decide) ?_
        refine XS.icmpYes Xl.here hexec rfl (pc0 := 20) rfl (hb hbytes d20) rfl (ii_le_t (hp i (by omega))) (by decide) rfl ?_
        refine XS.aloadN Xl.here hexec rfl (hb hbytes d26) rfl rfl ?_
        refine XS.iloadN Xl.here hexec rfl (hb hbytes d27) rfl ?_
        refine XS.iload Xl.here hexec rfl (hb hbytes d28) rfl ?_
        refine i2b Xl.here hexec rfl (hb hbytes d30) rfl ?_
        exact Steps.refl _)
      obtain ⟨T7, X7, p7, st7⟩ := Xl.aput hexec hBk rfl hlt rfl (fits_lo8 (cv A (o + i))) (g := (mkF m 31 #[.val (.ref b), .val (.int (Int32.ofNat (o + i))), .val (.ref d), .val (.int (Int32.ofNat (q + i))), .val (.int (Int32.ofNat len)), .val (.int (Int32.ofNat i)), .val (.int (cv A (o + i)))] [.int (lo8 (cv A (o + i))), .int (Int32.ofNat (q + i)), .ref d])) rfl (rest := []) rfl (hb hbytes d31)
      have c8 : Steps p.tables e below (s₁.setTop (entryFrame m #[.ref b, .int (Int32.ofNat o), .ref d, .int (Int32.ofNat q), .int (Int32.ofNat len)] 7)) (T7.setTop (mkF m 32 #[.val (.ref b), .val (.int (Int32.ofNat (o + i))), .val (.ref d), .val (.int (Int32.ofNat (q + i))), .val (.int (Int32.ofNat len)), .val (.int (Int32.ofNat i)), .val (.int (cv A (o + i)))] [])) := c6.trans (st7 _ (Steps.refl _))
      have c9 : Steps p.tables e below (s₁.setTop (entryFrame m #[.ref b, .int (Int32.ofNat o), .ref d, .int (Int32.ofNat q), .int (Int32.ofNat len)] 7)) (T7.setTop (mkF m 3 #[.val (.ref b), .val (.int (Int32.ofNat (o + i) + 1)), .val (.ref d), .val (.int (Int32.ofNat (q + i) + 1)), .val (.int (Int32.ofNat len)), .val (.int (Int32.ofNat i + 1)), .val (.int (cv A (o + i)))] [])) := c8.trans (by
        refine iincV X7.here hexec rfl 1 (hb hbytes d32) (by decide) rfl rfl ?_
        refine iincV X7.here hexec rfl 1 (hb hbytes d35) (by decide) rfl rfl ?_
        refine iincV X7.here hexec rfl 1 (hb hbytes d38) (by decide) rfl rfl ?_
        refine XS.goto X7.here hexec rfl (pc0 := 41) rfl (hb hbytes d41) (by decide) rfl ?_
        exact Steps.refl _)
      have c10 : Steps p.tables e below (s₁.setTop (entryFrame m #[.ref b, .int (Int32.ofNat o), .ref d, .int (Int32.ofNat q), .int (Int32.ofNat len)] 7)) (T7.setTop (mkF m 3 #[.val (.ref b), .val (.int (Int32.ofNat (o + (i + 1)))), .val (.ref d), .val (.int (Int32.ofNat (q + (i + 1)))), .val (.int (Int32.ofNat len)), .val (.int (Int32.ofNat (i + 1))), .val (.int (cv A (o + i)))] [])) := by
        have := c9
        rw [succ32, succ32, succ32] at this
        exact this
      exact ih (i + 1) (by omega) _ (Or.inr ⟨_, rfl, rfl⟩) T7 _ (by rw [copyLocs_step, ← List.append_assoc]; exact X7) (pl.trans p7) (fl.step (by omega) hlt (by simp)) c10
  obtain ⟨T9, B9, z9, X9, p9, f9, g9⟩ := loop len 0 (by omega) .unset (Or.inl rfl) s₁ B (by simpa [copyLocs] using X0) ⟨hB0.1, fun _ _ => rfl, rfl⟩ (Laid.zero _ _ _) c2
  have c11 : Steps p.tables e below (s₁.setTop (entryFrame m #[.ref b, .int (Int32.ofNat o), .ref d, .int (Int32.ofNat q), .int (Int32.ofNat len)] 7)) (T9.setTop (mkF m 46 #[.val (.ref b), .val (.int (Int32.ofNat (o + len))), .val (.ref d), .val (.int (Int32.ofNat (q + len))), .val (.int (Int32.ofNat len)), .val (.int (Int32.ofNat len)), z9] [.int (Int32.ofNat len)])) := g9.trans (by
    refine XS.iload X9.here hexec rfl (hb hbytes d3) rfl ?_
    refine XS.iload X9.here hexec rfl (hb hbytes d5) rfl ?_
    refine XS.icmpYes X9.here hexec rfl (pc0 := 7) rfl (hb hbytes d7) rfl (ii_ge_t (nlt32 (by omega) (Nat.le_refl _))) (by decide) rfl ?_
    refine XS.iload X9.here hexec rfl (hb hbytes d44) rfl ?_
    exact Steps.refl _)
  exact ⟨T9, some (.int (Int32.ofNat len)), _, _, _, X9, by simp, rfl, rfl, (fun h => by cases h), ⟨rfl, B9, p9.from hh0, f9⟩, fun fs hl => c11.trans (X9.ireturnOut hexec hret rfl (Or.inl rfl) (hb hbytes d46) hl)⟩
end Cmp5
namespace Cmp3
def yN : MethodName := ⟨"java/lang/StringUTF16", "compress", "([CII)[B"⟩
abbrev yB : ByteArray := jdk_52_method_16_code
theorem d0 : decode yB 0 = .ok (.iload_n 2, 1) := by decide +kernel
theorem d1 : decode yB 1 = .ok (.newarray .byte, 2) := by decide +kernel
theorem d3 : decode yB 3 = .ok (.astore_n 3, 1) := by decide +kernel
theorem d4 : decode yB 4 = .ok (.aload_n 0, 1) := by decide +kernel
theorem d5 : decode yB 5 = .ok (.iload_n 1, 1) := by decide +kernel
theorem d6 : decode yB 6 = .ok (.aload_n 3, 1) := by decide +kernel
theorem d7 : decode yB 7 = .ok (.iconst 0, 1) := by decide +kernel
theorem d8 : decode yB 8 = .ok (.iload_n 2, 1) := by decide +kernel
theorem d9 : decode yB 9 = .ok (.invokestatic 115, 3) := by decide +kernel
theorem d12 : decode yB 12 = .ok (.istore 4, 2) := by decide +kernel
theorem d14 : decode yB 14 = .ok (.iload 4, 2) := by decide +kernel
theorem d16 : decode yB 16 = .ok (.iload_n 2, 1) := by decide +kernel
theorem d17 : decode yB 17 = .ok (.if_icmp (.eq) 40, 3) := by decide +kernel
theorem d57 : decode yB 57 = .ok (.aload_n 3, 1) := by decide +kernel
theorem d58 : decode yB 58 = .ok (.areturn, 1) := by decide +kernel
def site : List Cond := [.arrayClass .byte, Cmp5.tab] ++ staticW U16 115 Cmp5.yN
def tab : Cond := tabOf yN yB 6 (some (.array .byte)) site
def P (b : Addr) (A : Cell) (o len : Nat) (args : Array Value) (s : State) : Prop := args = #[.ref b, .int (Int32.ofNat o), .int (Int32.ofNat len)] ∧ Ch b A s ∧ o + len ≤ A.slots.size ∧ len ≤ 536870912 ∧ ∀ i, i < len → ¬ 255 < cv A (o + i)
def E (b : Addr) (A : Cell) (o len : Nat) (r : Option Value) (s u : State) : Prop := NewArr .byte "[B" len (fun j => .int (lo8 (cv A (o + j)))) r s u ∧ u.heap.size = s.heap.size + 1
/-- no char of the range above 255: a new byte[] of their low bytes -/
theorem law (l : Launch) (b : Addr) (A : Cell) (o len : Nat) : Law l yN 3 3 1 18 yB 6 (some (.array .byte)) site (P b A o len) (E b A o len) [] 1 len := by
  refine Law.of_walk (plainFor_of_name (by decide +kernel)) (by decide +kernel) (by decide +kernel) (by decide) (fun _ _ h => by rw [h.1]; rfl) (fun _ U U' hal hh h => ⟨h.1, h.2.1.mv hal hh, h.2.2⟩) (fun r U U' V V' h1 hal h2 h => ⟨NewArr.mv r U U' V V' h1 hal h2 h.1, by rw [h1, h2]; exact h.2⟩) ?_
  intro p e s m args below meth c s₁ X0 hexec hbytes hml hret hlk hnm hown hh0 W hP
  obtain ⟨rfl, hA, l1, l2, hp⟩ := hP
  have a31 := hA.1.2.2.2
  have c1 : Steps p.tables e below (s₁.setTop (entryFrame m #[.ref b, .int (Int32.ofNat o), .int (Int32.ofNat len)] 6)) (s₁.setTop (mkF m 0 #[.val (.ref b), .val (.int (Int32.ofNat o)), .val (.int (Int32.ofNat len)), .unset, .unset, .unset] [])) := entry rfl
  have c2 : Steps p.tables e below (s₁.setTop (entryFrame m #[.ref b, .int (Int32.ofNat o), .int (Int32.ofNat len)] 6)) (s₁.setTop (mkF m 1 #[.val (.ref b), .val (.int (Int32.ofNat o)), .val (.int (Int32.ofNat len)), .unset, .unset, .unset] [.int (Int32.ofNat len)])) := c1.trans (by
    refine XS.iloadN X0.here hexec rfl (hb hbytes d0) rfl ?_
    exact Steps.refl _)
  obtain ⟨T3, B3, X3, ba3, bs3, bv3, bh3, bf3, st3⟩ := X0.anew hexec (atype := .byte) (wk W (.arrayClass .byte)) rfl (by show len * 1 ≤ _; omega) (by omega) (g := (mkF m 1 #[.val (.ref b), .val (.int (Int32.ofNat o)), .val (.int (Int32.ofNat len)), .unset, .unset, .unset] [.int (Int32.ofNat len)])) rfl (hb hbytes d1) (rest := []) rfl (Nat.le_refl _) (by show 0 + len ≤ len; omega)
  rw [hh0] at ba3 st3
  have kp3 : XT.Kept s T3 := (XT.Kept.of_eq hh0).push bh3
  have hA3 := hA.keep X3.warmed.alike (kp3 _ _ hA.1.1)
  have hne : b ≠ s.heap.size := hA.1.ne
  have c4 : Steps p.tables e below (s₁.setTop (entryFrame m #[.ref b, .int (Int32.ofNat o), .int (Int32.ofNat len)] 6)) (T3.setTop (mkF m 3 #[.val (.ref b), .val (.int (Int32.ofNat o)), .val (.int (Int32.ofNat len)), .unset, .unset, .unset] [.ref s.heap.size])) := c2.trans (st3 _ (Steps.refl _))
  have c5 : Steps p.tables e below (s₁.setTop (entryFrame m #[.ref b, .int (Int32.ofNat o), .int (Int32.ofNat len)] 6)) (T3.setTop (mkF m 9 #[.val (.ref b), .val (.int (Int32.ofNat o)), .val (.int (Int32.ofNat len)), .val (.ref s.heap.size), .unset, .unset] [.int (Int32.ofNat len), .int 0, .ref s.heap.size, .int (Int32.ofNat o), .ref b])) := c4.trans (by
    refine XS.astoreN X3.here hexec rfl (hb hbytes d3) rfl rfl rfl ?_
    refine XS.aloadN X3.here hexec rfl (hb hbytes d4) rfl rfl ?_
    refine XS.iloadN X3.here hexec rfl (hb hbytes d5) rfl ?_
    refine XS.aloadN X3.here hexec rfl (hb hbytes d6) rfl rfl ?_
    refine iconstV X3.here hexec rfl 0 (hb hbytes d7) (by decide) ?_
    refine XS.iloadN X3.here hexec rfl (hb hbytes d8) rfl ?_
    exact Steps.refl _)
  obtain ⟨v6, T6, X6, E6, g6⟩ := X3.callS hexec (Cmp5.law l b A s.heap.size B3 o 0 len) hown (wks W (staticW U16 115 Cmp5.yN)) (wk W Cmp5.tab) (W := 0) (Nat.le_of_ble_eq_true rfl) (Nat.le_of_ble_eq_true rfl) (Nat.le_refl _) (by show 0 + len + 0 ≤ len; omega) (g := (mkF m 9 #[.val (.ref b), .val (.int (Int32.ofNat o)), .val (.int (Int32.ofNat len)), .val (.ref s.heap.size), .unset, .unset] [.int (Int32.ofNat len), .int (Int32.ofNat 0), .ref s.heap.size, .int (Int32.ofNat o), .ref b])) rfl (by rw [hml]; rfl) c5 (argsL := [.ref b, .int (Int32.ofNat o), .ref s.heap.size, .int (Int32.ofNat 0), .int (Int32.ofNat len)]) (rest := []) rfl rfl (by show 2 * 0 + 0 ≤ _; decide) (hb hbytes d9) (⟨rfl, hA3, ba3, hne, l1, by rw [bs3]; simp, hp⟩)
  obtain ⟨rfl, B6, p6, f6⟩ := E6
  have c7 : Steps p.tables e below (s₁.setTop (entryFrame m #[.ref b, .int (Int32.ofNat o), .int (Int32.ofNat len)] 6)) (T6.setTop (mkF m 12 #[.val (.ref b), .val (.int (Int32.ofNat o)), .val (.int (Int32.ofNat len)), .val (.ref s.heap.size), .unset, .unset] [.int (Int32.ofNat len)])) := g6
  have c8 : Steps p.tables e below (s₁.setTop (entryFrame m #[.ref b, .int (Int32.ofNat o), .int (Int32.ofNat len)] 6)) (T6.setTop (mkF m 58 #[.val (.ref b), .val (.int (Int32.ofNat o)), .val (.int (Int32.ofNat len)), .val (.ref s.heap.size), .val (.int (Int32.ofNat len)), .unset] [.ref s.heap.size])) := c7.trans (by
    refine XS.istore X6.here hexec rfl (hb hbytes d12) rfl rfl ?_
    refine XS.iload X6.here hexec rfl (hb hbytes d14) rfl ?_
    refine XS.iloadN X6.here hexec rfl (hb hbytes d16) rfl ?_
    refine XS.icmpYes X6.here hexec rfl (pc0 := 17) rfl (hb hbytes d17) rfl (ii_eq_t rfl) (by decide) rfl ?_
    refine XS.aloadN X6.here hexec rfl (hb hbytes d57) rfl rfl ?_
    exact Steps.refl _)
  have X8 := X6.wide (L' := []) (cells' := 1) (slots' := len) (fun x hx hlt => by
    simp only [List.nil_append, copyLocs, List.mem_map, List.mem_range] at hx
    obtain ⟨i, -, rfl⟩ := hx
    exact absurd hlt (Nat.lt_irrefl _)) (Nat.le_refl _) (by omega)
  exact ⟨T6, some (.ref s.heap.size), _, _, _, X8, rfl, rfl, rfl, (fun h => by cases h), ⟨⟨rfl, B6, ba3.like (X3.warmed.alike.symm.trans X6.warmed.alike) p6.1 f6.1 f6.2.1 f6.2.2.1, f6.2.1.trans bv3, by rw [X6.warmed.alike.findClass, f6.1]; exact bf3, by rw [f6.2.2.1, bs3]; simp, fun j hj => by rw [f6.2.2.2 j, if_pos (by omega)]; rfl, kp3.put p6 (Nat.le_refl _)⟩, by rw [p6.2.2, bh3, hh0]; simp⟩, fun fs hl => c8.trans (X8.areturnOut hexec rfl hret rfl (hb hbytes d58) hl)⟩
end Cmp3
namespace CodL
def yN : MethodName := ⟨"java/lang/StringUTF16", "coderFromArrayLen", "([BI)B"⟩
abbrev yB : ByteArray := jdk_52_method_15_code
theorem d0 : decode yB 0 = .ok (.iload_n 1, 1) := by decide +kernel
theorem d1 : decode yB 1 = .ok (.aload_n 0, 1) := by decide +kernel
theorem d2 : decode yB 2 = .ok (.arraylength, 1) := by decide +kernel
theorem d3 : decode yB 3 = .ok (.isub, 1) := by decide +kernel
theorem d4 : decode yB 4 = .ok (.bipush 31, 2) := by decide +kernel
theorem d6 : decode yB 6 = .ok (.iushr, 1) := by decide +kernel
theorem d7 : decode yB 7 = .ok (.i2b, 1) := by decide +kernel
theorem d8 : decode yB 8 = .ok (.ireturn, 1) := by decide +kernel
def site : List Cond := []
def tab : Cond := tabOf yN yB 2 (some .byte) site
def P (d : Addr) (B : Cell) (args : Array Value) (s : State) : Prop := args = #[.ref d, .int (Int32.ofNat B.slots.size)] ∧ Arr .byte d B s
def E (r : Option Value) (s u : State) : Prop := XT.PureE (some (.int 0)) r s u
/-- an array as long as the number of chars: LATIN1 -/
theorem law (l : Launch) (d : Addr) (B : Cell) : Law l yN 2 2 0 0 yB 2 (some .byte) site (P d B) E [] 0 0 := by
  refine Law.of_walk (plainFor_of_name (by decide +kernel)) (by decide +kernel) (by decide +kernel) (by decide) (fun _ _ h => by rw [h.1]; rfl) (fun _ U U' hal hh h => ⟨h.1, h.2.mv hal hh⟩) (fun r U U' V V' h1 hal h2 h => XT.PureE.mv r U U' V V' h1 hal h2 h) ?_
  intro p e s m args below meth c s₁ X0 hexec hbytes hml hret hlk hnm hown hh0 W hP
  obtain ⟨rfl, hB⟩ := hP
  have hB0 := hB.mv X0.warmed.alike hh0
  have c1 : Steps p.tables e below (s₁.setTop (entryFrame m #[.ref d, .int (Int32.ofNat B.slots.size)] 2)) (s₁.setTop (mkF m 0 #[.val (.ref d), .val (.int (Int32.ofNat B.slots.size))] [])) := entry rfl
  have c2 : Steps p.tables e below (s₁.setTop (entryFrame m #[.ref d, .int (Int32.ofNat B.slots.size)] 2)) (s₁.setTop (mkF m 2 #[.val (.ref d), .val (.int (Int32.ofNat B.slots.size))] [.ref d, .int (Int32.ofNat B.slots.size)])) := c1.trans (by
    refine XS.iloadN X0.here hexec rfl (hb hbytes d0) rfl ?_
    refine XS.aloadN X0.here hexec rfl (hb hbytes d1) rfl rfl ?_
    exact Steps.refl _)
  have c3 : Steps p.tables e below (s₁.setTop (entryFrame m #[.ref d, .int (Int32.ofNat B.slots.size)] 2)) (s₁.setTop (mkF m 8 #[.val (.ref d), .val (.int (Int32.ofNat B.slots.size))] [.int (lo8 (ushr (Int32.ofNat B.slots.size - Int32.ofNat B.slots.size) 31))])) := c2.trans (by
    refine X0.alen hexec hB0 rfl rfl (hb hbytes d2) ?_
    refine XS.isub X0.here hexec rfl (hb hbytes d3) rfl ?_
    refine bipushV X0.here hexec rfl 31 (hb hbytes d4) (by decide) ?_
    refine iushr X0.here hexec rfl (hb hbytes d6) rfl ?_
    refine i2b X0.here hexec rfl (hb hbytes d7) rfl ?_
    exact Steps.refl _)
  have e0 : lo8 (ushr (Int32.ofNat B.slots.size - Int32.ofNat B.slots.size) 31) = 0 := by rw [Int32.sub_self]; decide
  rw [e0] at c3
  exact ⟨s₁, some (.int 0), _, _, _, X0, rfl, rfl, rfl, (fun h => by cases h), ⟨rfl, hh0⟩, fun fs hl => c3.trans (X0.ireturnOut hexec hret rfl (Or.inr (Or.inr (Or.inl rfl))) (hb hbytes d8) hl)⟩
end CodL
/-- the String at a is Latin-1 over a new byte[] (the heap's one new cell): the low bytes of the len chars of A from o on; every cell but a is kept -/
def Got (a : Addr) (D : Cell) (fV fC : Field) (A : Cell) (o len : Nat) (r : Option Value) (s u : State) : Prop := r = none ∧ ∃ D' V : Cell, Blank "java/lang/String" a D' u ∧ Same D D' [fV.slot, fC.slot] ∧ D'.slots[fV.slot]? = some (.ref s.heap.size) ∧ D'.slots[fC.slot]? = some (.int 0) ∧ Arr .byte s.heap.size V u ∧ V.vm = .none ∧ u.vm.findClass "[B" = some V.cls ∧ V.slots.size = len ∧ (∀ j, j < len → V.slots[j]? = some (.int (lo8 (cv A (o + j))))) ∧ (∀ (y : Addr) (c : Cell), y ≠ a → s.heap[y]? = some c → u.heap[y]? = some c) ∧ u.heap.size = s.heap.size + 1
theorem Got.mv {a : Addr} {D A : Cell} {fV fC : Field} {o len : Nat} : ∀ r (U U' V V' : State), U'.heap = U.heap → V.vm.Alike V'.vm → V'.heap = V.heap → Got a D fV fC A o len r U V → Got a D fV fC A o len r U' V' :=
  fun r U U' V V' h1 hal h2 ⟨e0, D', X, a1, a2, a3, a4, a5, a6, a7, a8, a9, a10, a11⟩ => ⟨e0, D', X, a1.mv hal h2, a2, by rw [h1]; exact a3, a4, by rw [h1]; exact a5.mv hal h2, a6, by rw [hal.findClass]; exact a7, a8, a9, by rw [h1, h2]; exact a10, by rw [h1, h2]; exact a11⟩
namespace New4
def yN : MethodName := ⟨"java/lang/String", "<init>", "([CIILjava/lang/Void;)V"⟩
abbrev yB : ByteArray := jdk_42_method_149_code
theorem d0 : decode yB 0 = .ok (.aload_n 0, 1) := by decide +kernel
theorem d1 : decode yB 1 = .ok (.invokespecial 1, 3) := by decide +kernel
theorem d4 : decode yB 4 = .ok (.iload_n 3, 1) := by decide +kernel
theorem d5 : decode yB 5 = .ok (.ifCond (.ne) 22, 3) := by decide +kernel
theorem d27 : decode yB 27 = .ok (.getstatic 38, 3) := by decide +kernel
theorem d30 : decode yB 30 = .ok (.ifCond (.eq) 28, 3) := by decide +kernel
theorem d33 : decode yB 33 = .ok (.aload_n 1, 1) := by decide +kernel
theorem d34 : decode yB 34 = .ok (.iload_n 2, 1) := by decide +kernel
theorem d35 : decode yB 35 = .ok (.iload_n 3, 1) := by decide +kernel
theorem d36 : decode yB 36 = .ok (.invokestatic 177, 3) := by decide +kernel
theorem d39 : decode yB 39 = .ok (.astore 5, 2) := by decide +kernel
theorem d41 : decode yB 41 = .ok (.aload_n 0, 1) := by decide +kernel
theorem d42 : decode yB 42 = .ok (.aload 5, 2) := by decide +kernel
theorem d44 : decode yB 44 = .ok (.iload_n 3, 1) := by decide +kernel
theorem d45 : decode yB 45 = .ok (.invokestatic 47, 3) := by decide +kernel
theorem d48 : decode yB 48 = .ok (.putfield 15, 3) := by decide +kernel
theorem d51 : decode yB 51 = .ok (.aload_n 0, 1) := by decide +kernel
theorem d52 : decode yB 52 = .ok (.aload 5, 2) := by decide +kernel
theorem d54 : decode yB 54 = .ok (.putfield 9, 3) := by decide +kernel
theorem d57 : decode yB 57 = .ok (.return_, 1) := by decide +kernel
def site : List Cond := [.fieldLink "java/lang/String" 38 "java/lang/String" "COMPACT_STRINGS" "Z", Cmp3.tab, CodL.tab, .laysFinal "java/lang/String" "java/lang/String" "value" "[B", .fieldLink "java/lang/String" 9 "java/lang/String" "value" "[B", .laysFinal "java/lang/String" "java/lang/String" "coder" "B", .fieldLink "java/lang/String" 15 "java/lang/String" "coder" "B"] ++ objW "java/lang/String" 1 ++ staticW "java/lang/String" 177 Cmp3.yN ++ staticW "java/lang/String" 47 CodL.yN
def tab : Cond := tabOf yN yB 6 none site
def P (a : Addr) (D : Cell) (fV fC : Field) (b : Addr) (A : Cell) (z : Int32) (o len : Nat) (args : Array Value) (s : State) : Prop := args = #[.ref a, .ref b, .int (Int32.ofNat o), .int (Int32.ofNat len), .null] ∧ Blank "java/lang/String" a D s ∧ Found "java/lang/String" "value" "[B" fV s ∧ Found "java/lang/String" "coder" "B" fC s ∧ Ch b A s ∧ StaticIs s "java/lang/String" "COMPACT_STRINGS" "Z" (.int z) ∧ ¬ z = 0 ∧ 0 < len ∧ o + len ≤ A.slots.size ∧ len ≤ 536870912 ∧ ∀ i, i < len → ¬ 255 < cv A (o + i)
def E (a : Addr) (D : Cell) (fV fC : Field) (A : Cell) (o len : Nat) (r : Option Value) (s u : State) : Prop := Got a D fV fC A o len r s u
/-- len > 0, no char of the range above 255: a Latin-1 String of their low bytes -/
theorem law (l : Launch) (a : Addr) (D : Cell) (fV fC : Field) (b : Addr) (A : Cell) (z : Int32) (o len : Nat) : Law l yN 5 4 2 35 yB 6 none site (P a D fV fC b A z o len) (E a D fV fC A o len) [⟨a, fC.slot⟩, ⟨a, fV.slot⟩] 1 len := by
  refine Law.of_walk (plainFor_of_name (by decide +kernel)) (by decide +kernel) (by decide +kernel) (by decide) (fun _ _ h => by rw [h.1]; rfl) (fun _ U U' hal hh h => ⟨h.1, h.2.1.mv hal hh, h.2.2.1.al hal, h.2.2.2.1.al hal, h.2.2.2.2.1.mv hal hh, h.2.2.2.2.2.1.there hal hh, h.2.2.2.2.2.2⟩) (fun r U U' V V' h1 hal h2 h => Got.mv r U U' V V' h1 hal h2 h) ?_
  intro p e s m args below meth c s₁ X0 hexec hbytes hml hret hlk hnm hown hh0 W hP
  obtain ⟨rfl, hB, f1, f2, hA, s1, hz, l0, l1, l2, hp⟩ := hP
  have a31 := hA.1.2.2.2
  have c1 : Steps p.tables e below (s₁.setTop (entryFrame m #[.ref a, .ref b, .int (Int32.ofNat o), .int (Int32.ofNat len), .null] 6)) (s₁.setTop (mkF m 0 #[.val (.ref a), .val (.ref b), .val (.int (Int32.ofNat o)), .val (.int (Int32.ofNat len)), .val .null, .unset] [])) := entry rfl
  have c2 : Steps p.tables e below (s₁.setTop (entryFrame m #[.ref a, .ref b, .int (Int32.ofNat o), .int (Int32.ofNat len), .null] 6)) (s₁.setTop (mkF m 1 #[.val (.ref a), .val (.ref b), .val (.int (Int32.ofNat o)), .val (.int (Int32.ofNat len)), .val .null, .unset] [.ref a])) := c1.trans (by
    refine XS.aloadN X0.here hexec rfl (hb hbytes d0) rfl rfl ?_
    exact Steps.refl _)
  obtain ⟨T3, X3, q3, st3⟩ := X0.oinit hexec hown (wks W (objW "java/lang/String" 1)) (g := (mkF m 1 #[.val (.ref a), .val (.ref b), .val (.int (Int32.ofNat o)), .val (.int (Int32.ofNat len)), .val .null, .unset] [.ref a])) rfl (by rw [hml]; rfl) (rest := []) rfl (hb hbytes d1) (W := 0) (by show 2 * 0 + 0 ≤ _; decide) (Nat.le_of_ble_eq_true rfl) (Nat.le_of_ble_eq_true rfl)
  have hh3 := q3.trans hh0
  have c4 : Steps p.tables e below (s₁.setTop (entryFrame m #[.ref a, .ref b, .int (Int32.ofNat o), .int (Int32.ofNat len), .null] 6)) (T3.setTop (mkF m 27 #[.val (.ref a), .val (.ref b), .val (.int (Int32.ofNat o)), .val (.int (Int32.ofNat len)), .val .null, .unset] [])) := (c2.trans (st3 _ (Steps.refl _))).trans (by
    refine XS.iloadN X3.here hexec rfl (hb hbytes d4) rfl ?_
    refine XS.ifYes X3.here hexec rfl (pc0 := 5) rfl (hb hbytes d5) rfl (i0_ne_t (nz32 (by omega) l0)) (by decide) rfl ?_
    exact Steps.refl _)
  obtain ⟨T5, X5, q5, st5⟩ := X3.sget hexec hown (wk W (.fieldLink "java/lang/String" 38 "java/lang/String" "COMPACT_STRINGS" "Z")) s1 (fun _ _ h => by rw [hh3]; exact h) (g := (mkF m 27 #[.val (.ref a), .val (.ref b), .val (.int (Int32.ofNat o)), .val (.int (Int32.ofNat len)), .val .null, .unset] [])) rfl (hb hbytes d27)
  have hh5 := q5.trans hh3
  have c6 : Steps p.tables e below (s₁.setTop (entryFrame m #[.ref a, .ref b, .int (Int32.ofNat o), .int (Int32.ofNat len), .null] 6)) (T5.setTop (mkF m 30 #[.val (.ref a), .val (.ref b), .val (.int (Int32.ofNat o)), .val (.int (Int32.ofNat len)), .val .null, .unset] [.int z])) := c4.trans (st5 _ (Steps.refl _))
  have c7 : Steps p.tables e below (s₁.setTop (entryFrame m #[.ref a, .ref b, .int (Int32.ofNat o), .int (Int32.ofNat len), .null] 6)) (T5.setTop (mkF m 36 #[.val (.ref a), .val (.ref b), .val (.int (Int32.ofNat o)), .val (.int (Int32.ofNat len)), .val .null, .unset] [.int (Int32.ofNat len), .int (Int32.ofNat o), .ref b])) := c6.trans (by
    refine XS.ifNo X5.here hexec rfl (hb hbytes d30) rfl (i0_eq_f hz) ?_
    refine XS.aloadN X5.here hexec rfl (hb hbytes d33) rfl rfl ?_
    refine XS.iloadN X5.here hexec rfl (hb hbytes d34) rfl ?_
    refine XS.iloadN X5.here hexec rfl (hb hbytes d35) rfl ?_
    exact Steps.refl _)
  obtain ⟨v8, T8, X8, E8, g8⟩ := X5.callS hexec (Cmp3.law l b A o len) hown (wks W (staticW "java/lang/String" 177 Cmp3.yN)) (wk W Cmp3.tab) (W := 0) (Nat.le_of_ble_eq_true rfl) (Nat.le_of_ble_eq_true rfl) (Nat.le_refl _) (by show 0 + len ≤ len; omega) (g := (mkF m 36 #[.val (.ref a), .val (.ref b), .val (.int (Int32.ofNat o)), .val (.int (Int32.ofNat len)), .val .null, .unset] [.int (Int32.ofNat len), .int (Int32.ofNat o), .ref b])) rfl (by rw [hml]; rfl) c7 (argsL := [.ref b, .int (Int32.ofNat o), .int (Int32.ofNat len)]) (rest := []) rfl rfl (by show 2 * 0 + 0 ≤ _; decide) (hb hbytes d36) (⟨rfl, hA.mv X5.warmed.alike hh5, l1, l2, hp⟩)
  obtain ⟨e8, z8⟩ := E8
  obtain ⟨rfl, N, n1, n2, n3, n4, n5, n6⟩ := NewArr.mv _ T5 s _ _ hh5.symm (Vm.Alike.refl _) rfl e8
  rw [hh5] at z8
  have hB1 := hB.keep X8.warmed.alike (n6 _ _ hB.1)
  have hne : s.heap.size ≠ a := (Nat.ne_of_lt (Array.getElem?_eq_some_iff.mp hB.1).1).symm
  have c9 : Steps p.tables e below (s₁.setTop (entryFrame m #[.ref a, .ref b, .int (Int32.ofNat o), .int (Int32.ofNat len), .null] 6)) (T8.setTop (mkF m 39 #[.val (.ref a), .val (.ref b), .val (.int (Int32.ofNat o)), .val (.int (Int32.ofNat len)), .val .null, .unset] [.ref s.heap.size])) := g8
  have c10 : Steps p.tables e below (s₁.setTop (entryFrame m #[.ref a, .ref b, .int (Int32.ofNat o), .int (Int32.ofNat len), .null] 6)) (T8.setTop (mkF m 45 #[.val (.ref a), .val (.ref b), .val (.int (Int32.ofNat o)), .val (.int (Int32.ofNat len)), .val .null, .val (.ref s.heap.size)] [.int (Int32.ofNat N.slots.size), .ref s.heap.size, .ref a])) := by
    have hc : Steps p.tables e below (s₁.setTop (entryFrame m #[.ref a, .ref b, .int (Int32.ofNat o), .int (Int32.ofNat len), .null] 6)) (T8.setTop (mkF m 45 #[.val (.ref a), .val (.ref b), .val (.int (Int32.ofNat o)), .val (.int (Int32.ofNat len)), .val .null, .val (.ref s.heap.size)] [.int (Int32.ofNat len), .ref s.heap.size, .ref a])) := c9.trans (by
      refine XS.astore X8.here hexec rfl (hb hbytes d39) rfl rfl rfl ?_
      refine XS.aloadN X8.here hexec rfl (hb hbytes d41) rfl rfl ?_
      refine XS.aload X8.here hexec rfl (hb hbytes d42) rfl rfl ?_
      refine XS.iloadN X8.here hexec rfl (hb hbytes d44) rfl ?_
      exact Steps.refl _)
    rw [n4]; exact hc
  obtain ⟨v11, T11, X11, E11, g11⟩ := X8.callS hexec (CodL.law l s.heap.size N) hown (wks W (staticW "java/lang/String" 47 CodL.yN)) (wk W CodL.tab) (W := 1) (Nat.le_of_ble_eq_true rfl) (Nat.le_of_ble_eq_true rfl) (Nat.le_refl _) (by show 0 + len + 0 ≤ len; omega) (g := (mkF m 45 #[.val (.ref a), .val (.ref b), .val (.int (Int32.ofNat o)), .val (.int (Int32.ofNat len)), .val .null, .val (.ref s.heap.size)] [.int (Int32.ofNat N.slots.size), .ref s.heap.size, .ref a])) rfl (by rw [hml]; rfl) c10 (argsL := [.ref s.heap.size, .int (Int32.ofNat N.slots.size)]) (rest := [.ref a]) rfl rfl (by show 2 * 0 + (1 + 0) ≤ _; decide) (hb hbytes d45) (⟨rfl, n1⟩)
  obtain ⟨rfl, q11⟩ := E11
  have hB11 := hB1.mv (X8.warmed.alike.symm.trans X11.warmed.alike) q11
  have c12 : Steps p.tables e below (s₁.setTop (entryFrame m #[.ref a, .ref b, .int (Int32.ofNat o), .int (Int32.ofNat len), .null] 6)) (T11.setTop (mkF m 48 #[.val (.ref a), .val (.ref b), .val (.int (Int32.ofNat o)), .val (.int (Int32.ofNat len)), .val .null, .val (.ref s.heap.size)] [.int 0, .ref a])) := g11
  obtain ⟨T13, X13, p13, bl13, sl13, st13⟩ := X11.finit hexec hown (wk W (.fieldLink "java/lang/String" 15 "java/lang/String" "coder" "B")) (Or.inr ⟨_, (wk W (.laysFinal "java/lang/String" "java/lang/String" "coder" "B"))⟩) (Or.inl ⟨rfl, hnm⟩) f2 (Or.inl rfl) hB11 (t := .byte) (by decide +kernel) rfl (g := (mkF m 48 #[.val (.ref a), .val (.ref b), .val (.int (Int32.ofNat o)), .val (.int (Int32.ofNat len)), .val .null, .val (.ref s.heap.size)] [.int 0, .ref a])) rfl (rest := []) rfl (hb hbytes d48)
  have c14 : Steps p.tables e below (s₁.setTop (entryFrame m #[.ref a, .ref b, .int (Int32.ofNat o), .int (Int32.ofNat len), .null] 6)) (T13.setTop (mkF m 54 #[.val (.ref a), .val (.ref b), .val (.int (Int32.ofNat o)), .val (.int (Int32.ofNat len)), .val .null, .val (.ref s.heap.size)] [.ref s.heap.size, .ref a])) := (c12.trans (st13 _ (Steps.refl _))).trans (by
    refine XS.aloadN X13.here hexec rfl (hb hbytes d51) rfl rfl ?_
    refine XS.aload X13.here hexec rfl (hb hbytes d52) rfl rfl ?_
    exact Steps.refl _)
  obtain ⟨T15, X15, p15, bl15, sl15, st15⟩ := X13.finit hexec hown (wk W (.fieldLink "java/lang/String" 9 "java/lang/String" "value" "[B")) (Or.inr ⟨_, (wk W (.laysFinal "java/lang/String" "java/lang/String" "value" "[B"))⟩) (Or.inl ⟨rfl, hnm⟩) f1 (Or.inl rfl) bl13 (t := (.array .byte)) (by decide +kernel) rfl (g := (mkF m 54 #[.val (.ref a), .val (.ref b), .val (.int (Int32.ofNat o)), .val (.int (Int32.ofNat len)), .val .null, .val (.ref s.heap.size)] [.ref s.heap.size, .ref a])) rfl (rest := []) rfl (hb hbytes d54)
  have c16 : Steps p.tables e below (s₁.setTop (entryFrame m #[.ref a, .ref b, .int (Int32.ofNat o), .int (Int32.ofNat len), .null] 6)) (T15.setTop (mkF m 57 #[.val (.ref a), .val (.ref b), .val (.int (Int32.ofNat o)), .val (.int (Int32.ofNat len)), .val .null, .val (.ref s.heap.size)] [])) := c14.trans (st15 _ (Steps.refl _))
  have ap := apart (Or.inr ⟨_, (wk W (.laysFinal "java/lang/String" "java/lang/String" "value" "[B"))⟩) (Or.inr ⟨_, (wk W (.laysFinal "java/lang/String" "java/lang/String" "coder" "B"))⟩) f1 f2 (t₁ := .array .byte) (t₂ := .byte) (by decide +kernel) (by decide +kernel) (by decide)
  have al := X8.warmed.alike.symm.trans X15.warmed.alike
  have n7 : T11.heap[s.heap.size]? = some N := by rw [q11]; exact n1.1
  exact ⟨T15, none, _, _, _, X15, by simp, rfl, by omega, (fun _ => rfl), ⟨rfl, _, N, bl15, ((Same.refl D _).set _ (by simp)).set _ (by simp), sl15, (Cell.slots_setSlot_ne _ ap).trans sl13, n1.keep al (p15.other hne (p13.other hne n7)), n2, by rw [al.findClass]; exact n3, n4, n5, fun y c h1 h2 => p15.other h1 (p13.other h1 (by rw [q11]; exact n6 y c h2)), by rw [p15.2.2, p13.2.2, q11]; exact z8⟩, fun fs hl => c16.trans (X15.returnOut hexec hret (hb hbytes d57) hl)⟩
end New4
namespace New1
def yN : MethodName := ⟨"java/lang/String", "<init>", "([C)V"⟩
abbrev yB : ByteArray := jdk_42_method_3_code
theorem d0 : decode yB 0 = .ok (.aload_n 0, 1) := by decide +kernel
theorem d1 : decode yB 1 = .ok (.aload_n 1, 1) := by decide +kernel
theorem d2 : decode yB 2 = .ok (.iconst 0, 1) := by decide +kernel
theorem d3 : decode yB 3 = .ok (.aload_n 1, 1) := by decide +kernel
theorem d4 : decode yB 4 = .ok (.arraylength, 1) := by decide +kernel
theorem d5 : decode yB 5 = .ok (.aconst_null, 1) := by decide +kernel
theorem d6 : decode yB 6 = .ok (.invokespecial 27, 3) := by decide +kernel
theorem d9 : decode yB 9 = .ok (.return_, 1) := by decide +kernel
def site : List Cond := [New4.tab] ++ initW "java/lang/String" 27 New4.yN
def tab : Cond := tabOf yN yB 2 none site
def P (a : Addr) (D : Cell) (fV fC : Field) (b : Addr) (A : Cell) (z : Int32) (args : Array Value) (s : State) : Prop := args = #[.ref a, .ref b] ∧ Blank "java/lang/String" a D s ∧ Found "java/lang/String" "value" "[B" fV s ∧ Found "java/lang/String" "coder" "B" fC s ∧ Ch b A s ∧ StaticIs s "java/lang/String" "COMPACT_STRINGS" "Z" (.int z) ∧ ¬ z = 0 ∧ 0 < A.slots.size ∧ A.slots.size ≤ 536870912 ∧ ∀ i, i < A.slots.size → ¬ 255 < cv A i
def E (a : Addr) (D : Cell) (fV fC : Field) (A : Cell) (r : Option Value) (s u : State) : Prop := Got a D fV fC A 0 A.slots.size r s u
/-- new String(chars), not empty, no char above 255: a Latin-1 String of their low bytes -/
theorem law (l : Launch) (a : Addr) (D : Cell) (fV fC : Field) (b : Addr) (A : Cell) (z : Int32) : Law l yN 2 1 3 52 yB 2 none site (P a D fV fC b A z) (E a D fV fC A) [⟨a, fC.slot⟩, ⟨a, fV.slot⟩] 1 A.slots.size := by
  refine Law.of_walk (plainFor_of_name (by decide +kernel)) (by decide +kernel) (by decide +kernel) (by decide) (fun _ _ h => by rw [h.1]; rfl) (fun _ U U' hal hh h => ⟨h.1, h.2.1.mv hal hh, h.2.2.1.al hal, h.2.2.2.1.al hal, h.2.2.2.2.1.mv hal hh, h.2.2.2.2.2.1.there hal hh, h.2.2.2.2.2.2⟩) (fun r U U' V V' h1 hal h2 h => Got.mv r U U' V V' h1 hal h2 h) ?_
  intro p e s m args below meth c s₁ X0 hexec hbytes hml hret hlk hnm hown hh0 W hP
  obtain ⟨rfl, hB, f1, f2, hA, s1, hz, l0, l2, hp⟩ := hP
  have c1 : Steps p.tables e below (s₁.setTop (entryFrame m #[.ref a, .ref b] 2)) (s₁.setTop (mkF m 0 #[.val (.ref a), .val (.ref b)] [])) := entry rfl
  have c2 : Steps p.tables e below (s₁.setTop (entryFrame m #[.ref a, .ref b] 2)) (s₁.setTop (mkF m 6 #[.val (.ref a), .val (.ref b)] [.null, .int (Int32.ofNat A.slots.size), .int 0, .ref b, .ref a])) := c1.trans (by
    refine XS.aloadN X0.here hexec rfl (hb hbytes d0) rfl rfl ?_
    refine XS.aloadN X0.here hexec rfl (hb hbytes d1) rfl rfl ?_
    refine iconstV X0.here hexec rfl 0 (hb hbytes d2) (by decide) ?_
    refine XS.aloadN X0.here hexec rfl (hb hbytes d3) rfl rfl ?_
    refine X0.alen hexec (hA.1.mv X0.warmed.alike hh0) rfl rfl (hb hbytes d4) ?_
    refine XS.aconstNull X0.here hexec rfl (hb hbytes d5) ?_
    exact Steps.refl _)
  obtain ⟨v3, T3, X3, E3, g3⟩ := X0.callN hexec (New4.law l a D fV fC b A z 0 A.slots.size) rfl hown (wks W (initW "java/lang/String" 27 New4.yN)) (W New4.tab (by simp only [site, List.mem_cons, List.mem_append, true_or, or_true])) (W := 0) (Nat.le_of_ble_eq_true rfl) (Nat.le_of_ble_eq_true rfl) (Nat.le_refl _) (by show 0 + A.slots.size ≤ A.slots.size; omega) (g := (mkF m 6 #[.val (.ref a), .val (.ref b)] [.null, .int (Int32.ofNat A.slots.size), .int (Int32.ofNat 0), .ref b, .ref a])) rfl (by rw [hml]; rfl) c2 (argsL := [.ref b, .int (Int32.ofNat 0), .int (Int32.ofNat A.slots.size), .null]) (rest := []) rfl rfl (by show 2 * 0 + 0 ≤ _; decide) (hb hbytes d6) (⟨rfl, hB.mv X0.warmed.alike hh0, f1.al X0.warmed.alike, f2.al X0.warmed.alike, hA.mv X0.warmed.alike hh0, s1.there X0.warmed.alike hh0, hz, l0, by omega, l2, fun i hi => by rw [Nat.zero_add]; exact hp i hi⟩)
  have e0 := Got.mv _ s₁ s _ _ hh0.symm (Vm.Alike.refl _) rfl E3
  obtain rfl := e0.1
  have c4 : Steps p.tables e below (s₁.setTop (entryFrame m #[.ref a, .ref b] 2)) (T3.setTop (mkF m 9 #[.val (.ref a), .val (.ref b)] [])) := g3
  exact ⟨T3, none, _, _, _, X3, by simp, rfl, by omega, (fun _ => rfl), e0, fun fs hl => c4.trans (X3.returnOut hexec hret (hb hbytes d9) hl)⟩
theorem pays {l : Launch} {R : Room} {p : Program} {e : Env} {below : List Frame} {s : State} {sargs : Array Value} {len W : Nat} (a : Addr) (D : Cell) (fV fC : Field) (b : Addr) (A : Cell) (z : Int32) (htab : tab.before sargs s = true) (hfr : 4 ≤ R.frames) (hlo : W + 65 ≤ R.locals) :
    Back l R p e below s sargs yN len W (fun A₁ a₁ => A₁.cells + 1 ≤ R.cells ∧ A₁.slots + A.slots.size ≤ R.slots ∧ P a D fV fC b A z a₁ A₁.U) (fun A₁ _ v₁ B₁ => E a D fV fC A v₁ A₁.U B₁.U ∧ B₁.locs = A₁.locs ++ [⟨a, fC.slot⟩, ⟨a, fV.slot⟩] ∧ B₁.cells = A₁.cells + 1 ∧ B₁.slots = A₁.slots + A.slots.size) :=
  (law l a D fV fC b A z).pays htab hfr (by omega)
end New1
/-- the byte, read back as charAt reads it, is the char -/
theorem lo8_mask {x : Int32} (h0 : ¬ x < 0) (h1 : ¬ 255 < x) : lo8 x &&& 255 = x := by
  have t : ∀ k : Fin 256, lo8 (Int32.ofNat k.val) &&& 255 = Int32.ofNat k.val := by decide +kernel
  rw [Int32.lt_iff_toInt_lt] at h0 h1
  have e0 : (0 : Int32).toInt = 0 := rfl
  have e1 : (255 : Int32).toInt = 255 := rfl
  obtain ⟨k, hk⟩ : ∃ k : Nat, x.toInt = k := ⟨x.toInt.toNat, by omega⟩
  have hx : x = Int32.ofNat k := Int32.toInt_inj.mp (by rw [hk, Int32.toInt_ofNat_small (by omega)])
  rw [hx]
  exact t ⟨k, by omega⟩
end StrChars
namespace StrChars.Road
open Jvm Sem ClassFile Op Lib Jvm.Stand Jvm.Free Jvm.Free.XT
open Jvm.Lib.Cold (StaticIs)
abbrev ST : String := "java/lang/String"
/-- every table word that New1's law asks, flat -/
abbrev words : List Jvm.Cond := [.code New1.yN New1.yB 2 none, .initialized ST, .methodLink ST 27 New4.yN, .instanceMethod New4.yN,
  .code New4.yN New4.yB 6 none, .fieldLink ST 38 ST "COMPACT_STRINGS" "Z", .laysFinal ST ST "value" "[B", .fieldLink ST 9 ST "value" "[B", .laysFinal ST ST "coder" "B", .fieldLink ST 15 ST "coder" "B",
  .methodLink ST 1 Lib.objectInit, .instanceMethod Lib.objectInit, .code Lib.objectInit ⟨#[0xb1]⟩ 1 none, .methodLink ST 177 Cmp3.yN, .static Cmp3.yN, .methodLink ST 47 CodL.yN, .static CodL.yN,
  .code Cmp3.yN Cmp3.yB 6 (some (.array .byte)), .initialized U16, .arrayClass .byte, .methodLink U16 115 Cmp5.yN, .static Cmp5.yN, .code Cmp5.yN Cmp5.yB 7 (some .int), .code CodL.yN CodL.yB 2 (some .byte)]
theorem tab_of {a : Array Value} {s : State} (h : ∀ w ∈ words, w.before a s = true) : New1.tab.before a s = true := by
  have h5 : Cmp5.tab.before a s = true := unparts (wk h (.code Cmp5.yN Cmp5.yB 7 (some .int))) (wks h (.initialized Cmp5.yN.cls :: Cmp5.site))
  have hc : CodL.tab.before a s = true := unparts (wk h (.code CodL.yN CodL.yB 2 (some .byte))) (wks h (.initialized CodL.yN.cls :: CodL.site))
  have q5 : ∀ w ∈ Cmp5.tab :: words, w.before a s = true := fun w hw => (List.mem_cons.mp hw).elim (fun e => e ▸ h5) (h w)
  have h3 : Cmp3.tab.before a s = true := unparts (wk q5 (.code Cmp3.yN Cmp3.yB 6 (some (.array .byte)))) (wks q5 (.initialized Cmp3.yN.cls :: Cmp3.site))
  have q3 : ∀ w ∈ Cmp3.tab :: CodL.tab :: words, w.before a s = true := fun w hw => (List.mem_cons.mp hw).elim (fun e => e ▸ h3) fun hw => (List.mem_cons.mp hw).elim (fun e => e ▸ hc) (h w)
  have h4 : New4.tab.before a s = true := unparts (wk q3 (.code New4.yN New4.yB 6 none)) (wks q3 (.initialized New4.yN.cls :: New4.site))
  have q4 : ∀ w ∈ New4.tab :: words, w.before a s = true := fun w hw => (List.mem_cons.mp hw).elim (fun e => e ▸ h4) (h w)
  exact unparts (wk q4 (.code New1.yN New1.yB 2 none)) (wks q4 (.initialized New1.yN.cls :: New1.site))
/-- the words ride from the start Z to the walk's own state -/
theorem moved {Z s : State} {a0 args : Array Value} (hZ : Z.Warmed39 s.vm) (hw : ∀ d ∈ words, d.before a0 Z = true) : ∀ d ∈ words, d.before args s = true := fun d hd => by
  have q := hw d hd
  have t : ∀ d ∈ words, d = .arrayClass .byte ∨ (d.onTables && d.keepsFace) = true := by decide +kernel
  rcases t d hd with rfl | t
  · exact RoadKit.mvA hZ q
  · exact RoadKit.mv hZ q t
/-- WHAT COMES BACK, over the tables of the start Z: h the heap at the call, h' behind it -/
def Q (Z : State) (x : Addr) (A : Cell) (h : Heap) (v : Option Value) (h' : Heap) (L : List Loc) : Prop := v = none ∧ (∀ y ∈ L, y.base = x) ∧ RoadKit.Keep h h' [x] ∧ h'.size = h.size + 1 ∧ RoadKit.Exa Z h' x ST ∧ RoadKit.Fld Z h' x ST "value" "[B" (.ref h.size) ∧ RoadKit.Fld Z h' x ST "coder" "B" (.int 0) ∧
  (∃ V : Cell, RoadKit.Arr Z h' h.size V .byte ∧ V.vm = .none ∧ Z.vm.findClass "[B" = some V.cls ∧ V.slots.size = A.slots.size ∧ ∀ j, j < A.slots.size → V.slots[j]? = some (.int (lo8 (cv A j)))) ∧
  ∀ (O n d : String) (w : Value), RoadKit.Fld Z h x O n d w → RoadKit.slotOf Z O n d ≠ RoadKit.slotOf Z ST "value" "[B" → RoadKit.slotOf Z O n d ≠ RoadKit.slotOf Z ST "coder" "B" → RoadKit.Fld Z h' x O n d w
/-- **new String(chars) AT A CALL, IN THE ROAD'S FORM**: for specialBack behind newO: x the fresh String, b the char[] with the cell A -/
theorem back {p : Program} {l : Launch} {e : Env} {R : Room} {s : State} {args : Array Value} {below : List Frame} {len W : Nat} {Z : State} {a0 : Array Value} {h : Heap} (hZ : Z.Warmed39 s.vm) (hw : ∀ d ∈ words, d.before a0 Z = true) {kI : Nat} (wi : (Jvm.Cond.instantiable ST kI).before a0 Z = true)
    {x b : Addr} {A : Cell} {z : Int32} {v0 c0 : Value} (E : RoadKit.Exa Z h x ST) (V : RoadKit.Fld Z h x ST "value" "[B" v0) (C : RoadKit.Fld Z h x ST "coder" "B" c0) (K : RoadKit.Arr Z h b A .char) (hty : Typed .char A) (S : RoadKit.Sta Z h ST "COMPACT_STRINGS" "Z" (.int z)) (hz : ¬ z = 0)
    (l0 : 0 < A.slots.size) (l2 : A.slots.size ≤ 536870912) (hp : ∀ i, i < A.slots.size → ¬ 255 < cv A i) (hfr : 4 ≤ R.frames) (hlo : W + 65 ≤ R.locals) :
    Back l R p e below s args New1.yN len W (fun P a => a = #[.ref x, .ref b] ∧ P.U.heap = h ∧ P.cells + 1 ≤ R.cells ∧ P.slots + A.slots.size ≤ R.slots)
      (fun P _ v B => ∃ L, Q Z x A h v B.U.heap L ∧ B.locs = P.locs ++ L ∧ B.cells = P.cells + 1 ∧ B.slots = P.slots + A.slots.size) := by
  intro m meth c P g ig mk a X hg hsize hdg hW hn hp'
  obtain ⟨rfl, rfl, r1, r2⟩ := hp'
  have al : Z.vm.Alike P.U.vm := hZ.alike.trans X.warmed.alike
  obtain ⟨D, cfV, kV, iV, fV, hD, gV, stV, knV, obV, asV, slV⟩ := id V
  obtain ⟨D', cfC, kC, iC, fC, hD', gC, stC, -, -, asC, slC⟩ := id C
  cases hD.symm.trans hD'
  obtain ⟨D2, kD, e1, e2, e3, e4, e5⟩ := id E
  cases hD.symm.trans e1
  obtain ⟨c2, k2, i1, i2, i3, -⟩ := Cond.instantiable_spec wi
  cases e2.symm.trans i1
  cases e3.symm.trans i2
  obtain ⟨kU, u1, u2⟩ := al.2.2 _ _ e3
  have hB : Blank ST x D P.U := ⟨hD, ⟨knV, fun q hq => by rw [hq] at obV; cases obV⟩, by rw [al.findClass]; exact e2, kU, u1, by rw [u2]; exact i3, by rw [u2]; exact e5 i3⟩
  have F1 : Found ST "value" "[B" fV P.U := ⟨SBG.found_only al ⟨cfV, kV, iV, gV⟩, stV⟩
  have F2 : Found ST "coder" "B" fC P.U := ⟨SBG.found_only al ⟨cfC, kC, iC, gC⟩, stC⟩
  have hA : Ch b A P.U := ⟨⟨K.1, State.isArrayOf_alike al K.2.1, K.2.2, by omega⟩, hty⟩
  have hS : StaticIs P.U ST "COMPACT_STRINGS" "Z" (.int z) := by
    obtain ⟨cfS, iS, kS, fS, st, cS, t1, t2, t3, t4, t5, t6, t7⟩ := S
    exact StaticIs.there (s := { Z with heap := P.U.heap }) ⟨cfS, iS, kS, fS, st, cS, t1, t2, t3, t4, t5, (fun q => by rw [q] at t6; cases t6), t7⟩ al rfl
  obtain ⟨v, B, X', ⟨⟨hv, E', V', q1, q2, q3, q4, q5, q6, q7, q8, q9, q10, q11⟩, hl, hc, hs⟩, st⟩ := New1.pays x D fV fC b A z (tab_of (moved hZ hw)) hfr hlo m meth c P g ig mk _ X hg hsize hdg hW hn ⟨r1, r2, rfl, hB, F1, F2, hA, hS, hz, l0, l2, hp⟩
  have al' : Z.vm.Alike B.U.vm := hZ.alike.trans X'.warmed.alike
  have hsz : E'.slots.size = D.slots.size := by
    obtain ⟨-, -, -, kB, w1, w2, w3⟩ := q1
    obtain ⟨kB', y1, y2⟩ := al'.2.2 _ _ e3
    rw [q2.2.1] at w1
    cases w1.symm.trans y1
    rw [w3, e5 i3, y2]
  refine ⟨v, B, X', ⟨_, ⟨hv, ?_, ⟨by omega, fun y cy hy hn' => q10 y cy (by simpa using hn') hy, fun y cy hy => ?_⟩, q11, ⟨E', _, q1.1, by rw [q2.2.1]; exact e2, by rw [q2.2.1]; exact e3, by rw [q2.1]; exact obV, fun _ => by rw [hsz]; exact e5 i3⟩,
    ⟨E', cfV, kV, iV, fV, q1.1, gV, stV, by rw [q2.1]; exact knV, by rw [q2.1]; exact obV, by rw [q2.2.1]; exact asV, q3⟩, ⟨E', cfC, kC, iC, fC, q1.1, gC, stC, by rw [q2.1]; exact knV, by rw [q2.1]; exact obV, by rw [q2.2.1]; exact asC, q4⟩,
    ⟨V', ⟨q5.1, State.isArrayOf_alike al'.symm q5.2.1, q5.2.2.1⟩, q6, by rw [← al'.findClass]; exact q7, q8, fun j hj => by have := q9 j hj; rwa [Nat.zero_add] at this⟩, fun O n d w F n1 n2 => ?_⟩, hl, hc, hs⟩, st⟩
  · intro y hy
    simp only [List.mem_cons, List.not_mem_nil, or_false] at hy
    rcases hy with rfl | rfl <;> rfl
  · by_cases q : y = x
    · subst q
      cases hD.symm.trans hy
      exact ⟨E', q1.1, q2.2.1, q2.1, hsz⟩
    · exact ⟨cy, q10 y cy q hy, rfl, rfl, rfl⟩
  · obtain ⟨D3, cf, k, i, f, g1, g2, g3, g4, g5, g6, g7⟩ := F
    cases hD.symm.trans g1
    simp only [RoadKit.slotOf, g2, gV, gC, Option.map_some, Option.getD_some] at n1 n2
    exact ⟨E', cf, k, i, f, q1.1, g2, g3, by rw [q2.1]; exact g4, by rw [q2.1]; exact g5, by rw [q2.2.1]; exact g6, by rw [q2.2.2 f.slot (by simp [n1, n2])]; exact g7⟩
end StrChars.Road
namespace StrChars.Road
open Jvm Sem ClassFile Op Lib Jvm.Stand Jvm.Free Jvm.Free.XT
/-- WHAT COMES BACK, the byte[] as a list of values -/
def QA (Z : State) (x : Addr) (zn : Int32) (cs : List Int32) (h : Heap) (v : Option Value) (h' : Heap) (L : List Loc) : Prop := v = none ∧ (∀ y ∈ L, y.base = x) ∧ RoadKit.Keep h h' [x] ∧ h'.size = h.size + 1 ∧ RoadKit.Exa Z h' x ST ∧ RoadKit.Fld Z h' x ST "value" "[B" (.ref h.size) ∧ RoadKit.Fld Z h' x ST "coder" "B" (.int 0) ∧
  (∃ kb, Z.vm.findClass "[B" = some kb ∧ RoadKit.Arv Z h' h.size kb .byte zn (cs.map fun c => .int (lo8 c)) (.int 0)) ∧
  ∀ (O n d : String) (w : Value), RoadKit.Fld Z h x O n d w → RoadKit.slotOf Z O n d ≠ RoadKit.slotOf Z ST "value" "[B" → RoadKit.slotOf Z O n d ≠ RoadKit.slotOf Z ST "coder" "B" → RoadKit.Fld Z h' x O n d w
/-- **new String(chars) AT A CALL, THE ARRAYS AS LISTS**: the char[] at b holds cs, not empty, no char above 255 -/
theorem backArv {p : Program} {l : Launch} {e : Env} {R : Room} {s : State} {args : Array Value} {below : List Frame} {len W : Nat} {Z : State} {a0 : Array Value} {h : Heap} (hZ : Z.Warmed39 s.vm) (hw : ∀ d ∈ words, d.before a0 Z = true) {kI : Nat} (wi : (Jvm.Cond.instantiable ST kI).before a0 Z = true)
    {x b : Addr} {k : ClassId} {zn z : Int32} {cs : List Int32} {dv v0 c0 : Value} (E : RoadKit.Exa Z h x ST) (V : RoadKit.Fld Z h x ST "value" "[B" v0) (C : RoadKit.Fld Z h x ST "coder" "B" c0) (K : RoadKit.Arv Z h b k .char zn (cs.map Value.int) dv) (S : RoadKit.Sta Z h ST "COMPACT_STRINGS" "Z" (.int z)) (hz : ¬ z = 0)
    (hlen : zn.toNatClampNeg = cs.length) (h0 : 0 < cs.length) (hbig : cs.length ≤ 536870912) (hall : ∀ c ∈ cs, ¬ 255 < c) (hfr : 4 ≤ R.frames) (hlo : W + 65 ≤ R.locals) :
    Back l R p e below s args New1.yN len W (fun P a => a = #[.ref x, .ref b] ∧ P.U.heap = h ∧ P.cells + 1 ≤ R.cells ∧ P.slots + cs.length ≤ R.slots)
      (fun P _ v B => ∃ L, QA Z x zn cs h v B.U.heap L ∧ B.locs = P.locs ++ L ∧ B.cells = P.cells + 1 ∧ B.slots = P.slots + cs.length) := by
  obtain ⟨A, K1, K2, K3, K4, K5, K6⟩ := K
  have e : A.slots.size = cs.length := K3.trans hlen
  have hat : ∀ (i : Nat) (hi : i < cs.length), A.slots[i]? = some (.int cs[i]) := fun i hi => by rw [K5 i (by omega)]; simp [List.getD_eq_getElem?_getD, hi]
  have hcv : ∀ (i : Nat) (hi : i < cs.length), cv A i = cs[i] := fun i hi => by unfold cv; rw [hat i hi]
  have hty : Typed .char A := fun i v hv => by
    have hi : i < A.slots.size := (Array.getElem?_eq_some_iff.mp hv).1
    have q := K5 i hi
    rw [hv] at q
    rw [Option.some.inj q]
    exact K6 i hi
  refine Back.mono (back hZ hw wi E V C K1 hty S hz (by omega) (by omega) (fun i hi => by rw [hcv i (by omega)]; exact hall _ (List.getElem_mem _)) hfr hlo) (fun P a hp => ⟨hp.1, hp.2.1, hp.2.2.1, by rw [e]; exact hp.2.2.2⟩) (fun P a v B hp hq => ?_)
  obtain ⟨L, ⟨q1, q2, q3, q4, q5, q6, q7, ⟨V', v1, v2, v3, v4, v5⟩, q9⟩, hl, hc, hs⟩ := hq
  refine ⟨L, ⟨q1, q2, q3, q4, q5, q6, q7, ⟨V'.cls, v3, V', v1, rfl, by rw [v4, e, hlen], K4, fun i hi => ?_, fun i hi => ?_⟩, q9⟩, hl, hc, by rw [hs, e]⟩
  · have hi' : i < cs.length := by omega
    rw [v5 i (by omega), hcv i hi']; simp [List.getD_eq_getElem?_getD, hi']
  · have hi' : i < cs.length := by omega
    simp only [List.getD_eq_getElem?_getD, List.getElem?_map, List.getElem?_eq_getElem hi', Option.map_some, Option.getD_some]
    exact fits_lo8 _
end StrChars.Road
namespace StrChars.Road
open Jvm Sem ClassFile Op Lib Jvm.Stand Jvm.Free Jvm.Free.XT
/-- WHAT COMES BACK, in the writer's own shape -/
def QV (Z : State) (x : Addr) (N : Int32) (bs : List Int32) (h : Heap) (n0 : Nat) (v : Option Value) (h' : Heap) (L : List Loc) : Prop := v = none ∧ RoadKit.Fr n0 L ∧ RoadKit.Keep h h' [x] ∧ RoadKit.Exa Z h' x ST ∧ RoadKit.Fld Z h' x ST "coder" "B" (.int 0) ∧
  ∃ (t : Addr) (kb : ClassId), n0 ≤ t ∧ h.size ≤ t ∧ ¬ t = x ∧ RoadKit.Fld Z h' x ST "value" "[B" (.ref t) ∧ RoadKit.Arv Z h' t kb .byte N (bs.map Value.int) (.int 0)
/-- **new String(chars) AT A CALL, FOR THE WRITER**: a char[] of n known ints, each 0 to 255 -/
theorem backV {p : Program} {l : Launch} {e : Env} {R : Room} {s : State} {args : Array Value} {below : List Frame} {len W : Nat} {Z : State} {a0 : Array Value} {h : Heap} (hZ : Z.Warmed39 s.vm) (hw : ∀ d ∈ words, d.before a0 Z = true) {kI : Nat} (wi : (Jvm.Cond.instantiable ST kI).before a0 Z = true)
    {x b : Addr} {kC : ClassId} {cs bs : List Int32} {d v0 c0 : Value} {z N : Int32} {n n0 : Nat} (hx0 : n0 ≤ x) (hh0 : n0 ≤ h.size) (E : RoadKit.Exa Z h x ST) (V : RoadKit.Fld Z h x ST "value" "[B" v0) (C : RoadKit.Fld Z h x ST "coder" "B" c0) (K : RoadKit.Arv Z h b kC .char N (cs.map Value.int) d) (S : RoadKit.Sta Z h ST "COMPACT_STRINGS" "Z" (.int z)) (hz : ¬ z = 0)
    (hn : cs.length = n) (hN : N = Int32.ofNat n) (l0 : 0 < n) (l2 : n ≤ 4000) (hp : ∀ c ∈ cs, ¬ c < 0 ∧ ¬ (255 : Int32) < c) (hb : bs = cs.map (fun c => c.toInt8.toInt32)) (hfr : 4 ≤ R.frames) (hlo : W + 65 ≤ R.locals) :
    Back l R p e below s args (⟨"java/lang/String", "<init>", "([C)V"⟩ : MethodName) len W (fun P a => a = #[.ref x, .ref b] ∧ P.U.heap = h ∧ P.cells + 1 ≤ R.cells ∧ P.slots + n ≤ R.slots)
      (fun P _ v B => ∃ L, QV Z x N bs h n0 v B.U.heap L ∧ B.locs = P.locs ++ L ∧ B.cells = P.cells + 1 ∧ B.slots = P.slots + n) := by
  subst hn hN hb
  refine Back.mono (backArv hZ hw wi E V C K S hz (n32 (by omega)) l0 (by omega) (fun c hc => (hp c hc).2) hfr hlo) (fun P a hp => hp) (fun P a v B hp hq => ?_)
  obtain ⟨L, ⟨q1, q2, q3, q4, q5, q6, q7, ⟨kb, v1, v2⟩, q9⟩, hl, hc, hs⟩ := hq
  exact ⟨L, ⟨q1, fun y hy => by rw [q2 y hy]; exact hx0, q3, q5, q7, h.size, kb, hh0, Nat.le_refl _, Nat.ne_of_gt E.lt, q6, by rw [List.map_map]; exact v2⟩, hl, hc, hs⟩
end StrChars.Road
namespace StrChars
open Jvm Sem ClassFile Op Lib Jvm.Stand Jvm.Free.XT Jvm.Free.ALB Jvm.Free.JM Jvm.Free
open Jvm.Lib.Cold (StaticIs)
def hi8 (x : Int32) : Int32 := lo8 (x >>> ((8 : Int32) &&& 31))
/-- what StringUTF16.getChar makes of two bytes -/
def pairCh (u v : Int32) : Int32 := (((u &&& 255) <<< ((0 : Int32) &&& 31)) ||| ((v &&& 255) <<< ((8 : Int32) &&& 31))).toUInt32.toUInt16.toUInt32.toInt32
theorem shr0 (c : Int32) : c >>> ((0 : Int32) &&& 31) = c := by
  have e : ((0 : Int32) &&& 31) = 0 := by decide
  rw [e]
  apply Int32.toBitVec_inj.mp
  rw [Int32.toBitVec_shiftRight]
  have e1 : ((0 : Int32).toBitVec.smod 32) = 0#32 := by decide
  rw [e1, BitVec.sshiftRight_eq']
  exact BitVec.sshiftRight_zero
theorem lo8_and (x : Int32) : (lo8 x &&& 255).toBitVec.toNat = x.toBitVec.toNat % 256 := by
  have h : (lo8 x).toBitVec = (x.toBitVec.signExtend 8).signExtend 32 := by rw [lo8, Int8.toBitVec_toInt32, Int32.toBitVec_toInt8]
  rw [Int32.toBitVec_and, BitVec.toNat_and, h]
  have e : ((x.toBitVec.signExtend 8).signExtend 32).toNat % 256 = x.toBitVec.toNat % 256 := by
    rw [BitVec.toNat_signExtend]
    have hlt := x.toBitVec.isLt
    simp only [BitVec.toNat_setWidth, BitVec.toNat_signExtend]
    split <;> split <;> omega
  rw [← e]
  exact Nat.and_two_pow_sub_one_eq_mod _ 8
theorem pair_says {c : Int32} (h0 : ¬ c < 0) (h1 : ¬ 65535 < c) : pairCh (lo8 c) (hi8 c) = c := by
  rw [Int32.lt_iff_toInt_lt] at h0 h1
  have e0 : (0 : Int32).toInt = 0 := rfl
  have e1 : (65535 : Int32).toInt = 65535 := rfl
  have hc : c.toInt = c.toBitVec.toNat := by
    have := c.toBitVec.isLt
    have e : c.toInt = c.toBitVec.toInt := rfl
    rw [e] at h0 h1
    rw [e]
    rw [BitVec.toInt_eq_toNat_cond] at h0 h1 ⊢
    split at h0 <;> split <;> omega
  have hn : c.toBitVec.toNat < 65536 := by omega
  have a1 := lo8_and c
  have a2 : (hi8 c &&& 255).toBitVec.toNat = c.toBitVec.toNat / 256 := by
    rw [hi8, lo8_and]
    have e : ((8 : Int32) &&& 31) = 8 := by decide
    rw [e, Int32.toBitVec_shiftRight]
    have e2 : ((8 : Int32).toBitVec.smod 32) = 8#32 := by decide
    rw [e2, BitVec.sshiftRight_eq', BitVec.toNat_sshiftRight_of_msb_false (by rw [BitVec.msb_eq_false_iff_two_mul_lt]; omega)]
    show c.toBitVec.toNat >>> 8 % 256 = _
    rw [Nat.shiftRight_eq_div_pow]
    omega
  unfold pairCh
  apply Int32.toBitVec_inj.mp
  apply BitVec.eq_of_toNat_eq
  have f0 : ((0 : Int32) &&& 31) = 0 := by decide
  have f8 : ((8 : Int32) &&& 31) = 8 := by decide
  rw [f0, f8]
  have g : (((lo8 c &&& 255) <<< (0 : Int32)) ||| ((hi8 c &&& 255) <<< (8 : Int32))).toBitVec.toNat = c.toBitVec.toNat := by
    rw [Int32.toBitVec_or, Int32.toBitVec_shiftLeft, Int32.toBitVec_shiftLeft]
    have s0 : ((0 : Int32).toBitVec.smod 32) = 0#32 := by decide
    have s8 : ((8 : Int32).toBitVec.smod 32) = 8#32 := by decide
    rw [s0, s8, BitVec.toNat_or]
    simp only [BitVec.shiftLeft_eq', BitVec.toNat_shiftLeft, a1, a2]
    show (c.toBitVec.toNat % 256) <<< 0 % 2 ^ 32 ||| (c.toBitVec.toNat / 256) <<< 8 % 2 ^ 32 = _
    rw [Nat.shiftLeft_zero, Nat.mod_eq_of_lt (show c.toBitVec.toNat % 256 < 2 ^ 32 by omega), Nat.mod_eq_of_lt (show (c.toBitVec.toNat / 256) <<< 8 < 2 ^ 32 by rw [Nat.shiftLeft_eq]; omega), Nat.or_comm, ← Nat.shiftLeft_add_eq_or_of_lt (by omega), Nat.shiftLeft_eq]
    omega
  show BitVec.toNat (((((lo8 c &&& 255) <<< (0 : Int32)) ||| ((hi8 c &&& 255) <<< (8 : Int32))).toBitVec.setWidth 16).setWidth 32) = _
  rw [BitVec.toNat_setWidth, BitVec.toNat_setWidth, g]
  omega
end StrChars
namespace StrChars
open Jvm Sem ClassFile Op Lib Jvm.Stand Jvm.Free.XT Jvm.Free.ALB Jvm.Free.JM Jvm.Free
open Jvm.Lib.Cold (StaticIs)
theorem shr1 {n : Nat} (h : 2 * n < 2 ^ 31) : Int32.ofNat (2 * n) >>> ((1 : Int32) &&& 31) = Int32.ofNat n := by
  have e : ((1 : Int32) &&& 31) = 1 := by decide
  rw [e]
  apply Int32.toBitVec_inj.mp
  rw [Int32.toBitVec_shiftRight]
  have e1 : ((1 : Int32).toBitVec.smod 32) = 1#32 := by decide
  have hm : (BitVec.ofNat 32 (2 * n)).toNat = 2 * n := by rw [BitVec.toNat_ofNat, Nat.mod_eq_of_lt (by omega)]
  rw [e1, BitVec.sshiftRight_eq']
  apply BitVec.eq_of_toNat_eq
  show ((BitVec.ofNat 32 (2 * n)).sshiftRight 1).toNat = (BitVec.ofNat 32 n).toNat
  rw [BitVec.toNat_sshiftRight_of_msb_false (by rw [BitVec.msb_eq_false_iff_two_mul_lt, hm]; omega), hm, BitVec.toNat_ofNat, Nat.shiftRight_eq_div_pow]
  omega
/-- charAt's cast of a byte read back -/
def chr8 (u : Int32) : Int32 := (u &&& 255).toUInt32.toUInt16.toUInt32.toInt32
theorem chr8_lo8 {c : Int32} (h0 : ¬ c < 0) (h1 : ¬ 255 < c) : chr8 (lo8 c) = c := by
  have t : ∀ k : Fin 256, (Int32.ofNat k.val).toUInt32.toUInt16.toUInt32.toInt32 = Int32.ofNat k.val := by decide +kernel
  unfold chr8
  rw [lo8_mask h0 h1]
  rw [Int32.lt_iff_toInt_lt] at h0 h1
  have e0 : (0 : Int32).toInt = 0 := rfl
  have e1 : (255 : Int32).toInt = 255 := rfl
  obtain ⟨k, hk⟩ : ∃ k : Nat, c.toInt = k := ⟨c.toInt.toNat, by omega⟩
  have hx : c = Int32.ofNat k := Int32.toInt_inj.mp (by rw [hk, Int32.toInt_ofNat_small (by omega)])
  rw [hx]
  exact t ⟨k, by omega⟩
theorem narrow_ch {c : Int32} (h0 : ¬ c < 0) (h1 : ¬ 65535 < c) : narrow .char (.int c) = .int c := by
  have q : narrow .char (.int (pairCh (lo8 c) (hi8 c))) = .int (pairCh (lo8 c) (hi8 c)) := narrow_c _
  rwa [pair_says h0 h1] at q
/-- the array's cell V codes the n chars f 0 .. f (n - 1) by the coder cd, as the JDK does: coder 1 just where some char is above 255 -/
def Cod (cd : Int32) (n : Nat) (f : Nat → Int32) (V : Cell) : Prop := (cd = 0 ∧ V.slots.size = n ∧ ∀ j, j < n → V.slots[j]? = some (.int (lo8 (f j))) ∧ ¬ 255 < f j) ∨ (cd = 1 ∧ V.slots.size = 2 * n ∧ (∀ j, j < n → V.slots[2 * j]? = some (.int (lo8 (f j))) ∧ V.slots[2 * j + 1]? = some (.int (hi8 (f j)))) ∧ ∃ j, j < n ∧ 255 < f j)
theorem Cod.cd {cd : Int32} {n : Nat} {f : Nat → Int32} {V : Cell} (h : Cod cd n f V) : cd = 0 ∨ cd = 1 := h.imp (fun q => q.1) fun q => q.1
theorem Cod.len {cd : Int32} {n : Nat} {f : Nat → Int32} {V : Cell} (h : Cod cd n f V) (hs : V.slots.size < 2 ^ 31) : Int32.ofNat V.slots.size >>> (cd &&& 31) = Int32.ofNat n := by
  rcases h with ⟨rfl, h, -⟩ | ⟨rfl, h, -⟩
  · rw [shr0, h]
  · rw [h, shr1 (by omega)]
/-- **x is a String of the n chars f 0 .. f (n - 1)**, Latin-1 or UTF-16; its array at t has the cell V -/
def Txt (x t : Addr) (V : Cell) (cd : Int32) (n : Nat) (f : Nat → Int32) (U : State) : Prop := Exact "java/lang/String" x U ∧ Has x "java/lang/String" "value" "[B" (.ref t) U ∧ Has x "java/lang/String" "coder" "B" (.int cd) U ∧ XT.Arr .byte t V U ∧ Cod cd n f V ∧ ∀ j, j < n → ¬ f j < 0 ∧ ¬ 65535 < f j
theorem Txt.mv {x t : Addr} {V : Cell} {cd : Int32} {n : Nat} {f : Nat → Int32} {U U' : State} (h : Txt x t V cd n f U) (hal : U.vm.Alike U'.vm) (hh : U'.heap = U.heap) : Txt x t V cd n f U' := ⟨h.1.mv hal hh, h.2.1.mv hal hh, h.2.2.1.mv hal hh, h.2.2.2.1.mv hal hh, h.2.2.2.2⟩
namespace Cdr
def yN : MethodName := ⟨"java/lang/String", "coder", "()B"⟩
abbrev yB : ByteArray := jdk_42_method_152_code
theorem d0 : decode yB 0 = .ok (.getstatic 38, 3) := by decide +kernel
theorem d3 : decode yB 3 = .ok (.ifCond (.eq) 10, 3) := by decide +kernel
theorem d6 : decode yB 6 = .ok (.aload_n 0, 1) := by decide +kernel
theorem d7 : decode yB 7 = .ok (.getfield 15, 3) := by decide +kernel
theorem d10 : decode yB 10 = .ok (.goto 4, 3) := by decide +kernel
theorem d14 : decode yB 14 = .ok (.ireturn, 1) := by decide +kernel
def site : List Cond := [.fieldLink "java/lang/String" 38 "java/lang/String" "COMPACT_STRINGS" "Z", .fieldLink "java/lang/String" 15 "java/lang/String" "coder" "B"]
def tab : Cond := tabOf yN yB 1 (some .byte) site
def P (x : Addr) (cd z : Int32) (args : Array Value) (s : State) : Prop := args = #[.ref x] ∧ Has x "java/lang/String" "coder" "B" (.int cd) s ∧ (cd = 0 ∨ cd = 1) ∧ StaticIs s "java/lang/String" "COMPACT_STRINGS" "Z" (.int z) ∧ ¬ z = 0
def E (cd : Int32) (r : Option Value) (s u : State) : Prop := XT.PureE (some (.int cd)) r s u
theorem law (l : Launch) (x : Addr) (cd z : Int32) : Law l yN 1 0 0 0 yB 1 (some .byte) site (P x cd z) (E cd) [] 0 0 := by
  refine Law.of_walk (plainFor_of_name (by decide +kernel)) (by decide +kernel) (by decide +kernel) (by decide) (fun _ _ h => by rw [h.1]; rfl) (fun _ U U' hal hh h => ⟨h.1, h.2.1.mv hal hh, h.2.2.1, h.2.2.2.1.there hal hh, h.2.2.2.2⟩) (fun r U U' V V' h1 hal h2 h => XT.PureE.mv r U U' V V' h1 hal h2 h) ?_
  intro p e s m args below meth c s₁ X0 hexec hbytes hml hret hlk hnm hown hh0 W hP
  obtain ⟨rfl, hx, hc, s1, hz⟩ := hP
  have c1 : Steps p.tables e below (s₁.setTop (entryFrame m #[.ref x] 1)) (s₁.setTop (mkF m 0 #[.val (.ref x)] [])) := entry rfl
  obtain ⟨T2, X2, q2, st2⟩ := X0.sget hexec hown (wk W (.fieldLink "java/lang/String" 38 "java/lang/String" "COMPACT_STRINGS" "Z")) s1 (fun _ _ h => by rw [hh0]; exact h) (g := (mkF m 0 #[.val (.ref x)] [])) rfl (hb hbytes d0)
  have hh2 := q2.trans hh0
  have c3 : Steps p.tables e below (s₁.setTop (entryFrame m #[.ref x] 1)) (T2.setTop (mkF m 7 #[.val (.ref x)] [.ref x])) := (c1.trans (st2 _ (Steps.refl _))).trans (by
    refine XS.ifNo X2.here hexec rfl (hb hbytes d3) rfl (i0_eq_f hz) ?_
    refine XS.aloadN X2.here hexec rfl (hb hbytes d6) rfl rfl ?_
    exact Steps.refl _)
  obtain ⟨T4, X4, q4, st4⟩ := X2.hget hexec hown (wk W (.fieldLink "java/lang/String" 15 "java/lang/String" "coder" "B")) (hx.mv X2.warmed.alike hh2) (g := (mkF m 7 #[.val (.ref x)] [.ref x])) rfl (rest := []) rfl (hb hbytes d7)
  have c5 : Steps p.tables e below (s₁.setTop (entryFrame m #[.ref x] 1)) (T4.setTop (mkF m 14 #[.val (.ref x)] [.int cd])) := (c3.trans (st4 _ (Steps.refl _))).trans (by
    refine XS.goto X4.here hexec rfl (pc0 := 10) rfl (hb hbytes d10) (by decide) rfl ?_
    exact Steps.refl _)
  exact ⟨T4, some (.int cd), _, _, _, X4, rfl, rfl, rfl, (fun h => by cases h), ⟨rfl, q4.trans hh2⟩, fun fs hl => c5.trans (X4.ireturnOut hexec hret (by rcases hc with rfl | rfl <;> rfl) (Or.inr (Or.inr (Or.inl rfl))) (hb hbytes d14) hl)⟩
end Cdr
namespace Len
def yN : MethodName := ⟨"java/lang/String", "length", "()I"⟩
abbrev yB : ByteArray := jdk_42_method_54_code
theorem d0 : decode yB 0 = .ok (.aload_n 0, 1) := by decide +kernel
theorem d1 : decode yB 1 = .ok (.getfield 9, 3) := by decide +kernel
theorem d4 : decode yB 4 = .ok (.arraylength, 1) := by decide +kernel
theorem d5 : decode yB 5 = .ok (.aload_n 0, 1) := by decide +kernel
theorem d6 : decode yB 6 = .ok (.invokevirtual 335, 3) := by decide +kernel
theorem d9 : decode yB 9 = .ok (.ishr, 1) := by decide +kernel
theorem d10 : decode yB 10 = .ok (.ireturn, 1) := by decide +kernel
def site : List Cond := [.fieldLink "java/lang/String" 9 "java/lang/String" "value" "[B", Cdr.tab] ++ virtW "java/lang/String" 335 "java/lang/String" Cdr.yN Cdr.yN
def tab : Cond := tabOf yN yB 1 (some .int) site
def P (x t : Addr) (V : Cell) (cd : Int32) (n : Nat) (f : Nat → Int32) (z : Int32) (args : Array Value) (s : State) : Prop := args = #[.ref x] ∧ Txt x t V cd n f s ∧ StaticIs s "java/lang/String" "COMPACT_STRINGS" "Z" (.int z) ∧ ¬ z = 0
def E (n : Nat) (r : Option Value) (s u : State) : Prop := XT.PureE (some (.int (Int32.ofNat n))) r s u
/-- length() of a String of n chars, in either coding -/
theorem law (l : Launch) (x t : Addr) (V : Cell) (cd : Int32) (n : Nat) (f : Nat → Int32) (z : Int32) : Law l yN 1 0 1 13 yB 1 (some .int) site (P x t V cd n f z) (E n) [] 0 0 := by
  refine Law.of_walk (plainFor_of_name (by decide +kernel)) (by decide +kernel) (by decide +kernel) (by decide) (fun _ _ h => by rw [h.1]; rfl) (fun _ U U' hal hh h => ⟨h.1, h.2.1.mv hal hh, h.2.2.1.there hal hh, h.2.2.2⟩) (fun r U U' V V' h1 hal h2 h => XT.PureE.mv r U U' V V' h1 hal h2 h) ?_
  intro p e s m args below meth c s₁ X0 hexec hbytes hml hret hlk hnm hown hh0 W hP
  obtain ⟨rfl, hx, s1, hz⟩ := hP
  have v31 := hx.2.2.2.1.2.2.2
  have c1 : Steps p.tables e below (s₁.setTop (entryFrame m #[.ref x] 1)) (s₁.setTop (mkF m 1 #[.val (.ref x)] [.ref x])) := Steps.trans (entry rfl) (by
    show Steps p.tables e below (s₁.setTop (mkF m 0 #[.val (.ref x)] [])) _
    refine XS.aloadN X0.here hexec rfl (hb hbytes d0) rfl rfl ?_
    exact Steps.refl _)
  obtain ⟨T2, X2, q2, st2⟩ := X0.hget hexec hown (wk W (.fieldLink "java/lang/String" 9 "java/lang/String" "value" "[B")) (hx.mv X0.warmed.alike hh0).2.1 (g := (mkF m 1 #[.val (.ref x)] [.ref x])) rfl (rest := []) rfl (hb hbytes d1)
  have hh2 := q2.trans hh0
  have hx2 := hx.mv X2.warmed.alike hh2
  have c3 : Steps p.tables e below (s₁.setTop (entryFrame m #[.ref x] 1)) (T2.setTop (mkF m 6 #[.val (.ref x)] [.ref x, .int (Int32.ofNat V.slots.size)])) := (c1.trans (st2 _ (Steps.refl _))).trans (by
    refine X2.alen hexec hx2.2.2.2.1 rfl rfl (hb hbytes d4) ?_
    refine XS.aloadN X2.here hexec rfl (hb hbytes d5) rfl rfl ?_
    exact Steps.refl _)
  obtain ⟨v4, T4, X4, E4, g4⟩ := X2.callV hexec (Cdr.law l x cd z) hown (wks W (virtW "java/lang/String" 335 "java/lang/String" Cdr.yN Cdr.yN)) rfl (by decide) (wk W Cdr.tab) (W := 1) (Nat.le_of_ble_eq_true rfl) (Nat.le_of_ble_eq_true rfl) (Nat.le_refl _) (Nat.le_refl _) (hx2.1.fc X2.warmed.alike) hx2.1.is (g := (mkF m 6 #[.val (.ref x)] [.ref x, .int (Int32.ofNat V.slots.size)])) rfl (by rw [hml]; rfl) c3 (argsL := []) (rest := [.int (Int32.ofNat V.slots.size)]) rfl rfl (by show 2 * 0 + (1 + 0) ≤ _; decide) (hb hbytes d6) (⟨rfl, hx2.2.2.1, hx.2.2.2.2.1.cd, s1.there X2.warmed.alike hh2, hz⟩)
  obtain ⟨rfl, q4⟩ := E4
  have c5 : Steps p.tables e below (s₁.setTop (entryFrame m #[.ref x] 1)) (T4.setTop (mkF m 10 #[.val (.ref x)] [.int (Int32.ofNat V.slots.size >>> (cd &&& 31))])) := Steps.trans g4 (by
    refine ishr X4.here hexec rfl (hb hbytes d9) rfl ?_
    exact Steps.refl _)
  rw [hx.2.2.2.2.1.len v31] at c5
  exact ⟨T4, some (.int (Int32.ofNat n)), _, _, _, X4, rfl, rfl, rfl, (fun h => by cases h), ⟨rfl, q4.trans hh2⟩, fun fs hl => c5.trans (X4.ireturnOut hexec hret rfl (Or.inl rfl) (hb hbytes d10) hl)⟩
theorem pays {l : Launch} {R : Room} {p : Program} {e : Env} {below : List Frame} {s : State} {sargs : Array Value} {len W : Nat} (x t : Addr) (V : Cell) (cd : Int32) (n : Nat) (f : Nat → Int32) (z : Int32) (htab : tab.before sargs s = true) (hfr : 2 ≤ R.frames) (hlo : W + 25 ≤ R.locals) :
    Back l R p e below s sargs yN len W (fun A₁ a₁ => A₁.cells + 0 ≤ R.cells ∧ A₁.slots + 0 ≤ R.slots ∧ P x t V cd n f z a₁ A₁.U) (fun A₁ _ v₁ B₁ => E n v₁ A₁.U B₁.U ∧ B₁.locs = A₁.locs ++ [] ∧ B₁.cells = A₁.cells + 0 ∧ B₁.slots = A₁.slots + 0) :=
  (law l x t V cd n f z).pays htab hfr (by omega)
end Len
namespace IsL
def yN : MethodName := ⟨"java/lang/String", "isLatin1", "()Z"⟩
abbrev yB : ByteArray := jdk_42_method_154_code
theorem d0 : decode yB 0 = .ok (.getstatic 38, 3) := by decide +kernel
theorem d3 : decode yB 3 = .ok (.ifCond (.eq) 14, 3) := by decide +kernel
theorem d6 : decode yB 6 = .ok (.aload_n 0, 1) := by decide +kernel
theorem d7 : decode yB 7 = .ok (.getfield 15, 3) := by decide +kernel
theorem d10 : decode yB 10 = .ok (.ifCond (.ne) 7, 3) := by decide +kernel
theorem d13 : decode yB 13 = .ok (.iconst 1, 1) := by decide +kernel
theorem d14 : decode yB 14 = .ok (.goto 4, 3) := by decide +kernel
theorem d17 : decode yB 17 = .ok (.iconst 0, 1) := by decide +kernel
theorem d18 : decode yB 18 = .ok (.ireturn, 1) := by decide +kernel
def site : List Cond := [.fieldLink "java/lang/String" 38 "java/lang/String" "COMPACT_STRINGS" "Z", .fieldLink "java/lang/String" 15 "java/lang/String" "coder" "B"]
def tab : Cond := tabOf yN yB 1 (some .boolean) site
def P (x : Addr) (cd z : Int32) (args : Array Value) (s : State) : Prop := args = #[.ref x] ∧ Has x "java/lang/String" "coder" "B" (.int cd) s ∧ (cd = 0 ∨ cd = 1) ∧ StaticIs s "java/lang/String" "COMPACT_STRINGS" "Z" (.int z) ∧ ¬ z = 0
def E (cd : Int32) (r : Option Value) (s u : State) : Prop := XT.PureE (some (.int (1 - cd))) r s u
theorem law (l : Launch) (x : Addr) (cd z : Int32) : Law l yN 1 0 0 0 yB 1 (some .boolean) site (P x cd z) (E cd) [] 0 0 := by
  refine Law.of_walk (plainFor_of_name (by decide +kernel)) (by decide +kernel) (by decide +kernel) (by decide) (fun _ _ h => by rw [h.1]; rfl) (fun _ U U' hal hh h => ⟨h.1, h.2.1.mv hal hh, h.2.2.1, h.2.2.2.1.there hal hh, h.2.2.2.2⟩) (fun r U U' V V' h1 hal h2 h => XT.PureE.mv r U U' V V' h1 hal h2 h) ?_
  intro p e s m args below meth c s₁ X0 hexec hbytes hml hret hlk hnm hown hh0 W hP
  obtain ⟨rfl, hx, hc, s1, hz⟩ := hP
  have c1 : Steps p.tables e below (s₁.setTop (entryFrame m #[.ref x] 1)) (s₁.setTop (mkF m 0 #[.val (.ref x)] [])) := entry rfl
  obtain ⟨T2, X2, q2, st2⟩ := X0.sget hexec hown (wk W (.fieldLink "java/lang/String" 38 "java/lang/String" "COMPACT_STRINGS" "Z")) s1 (fun _ _ h => by rw [hh0]; exact h) (g := (mkF m 0 #[.val (.ref x)] [])) rfl (hb hbytes d0)
  have hh2 := q2.trans hh0
  have c3 : Steps p.tables e below (s₁.setTop (entryFrame m #[.ref x] 1)) (T2.setTop (mkF m 7 #[.val (.ref x)] [.ref x])) := (c1.trans (st2 _ (Steps.refl _))).trans (by
    refine XS.ifNo X2.here hexec rfl (hb hbytes d3) rfl (i0_eq_f hz) ?_
    refine XS.aloadN X2.here hexec rfl (hb hbytes d6) rfl rfl ?_
    exact Steps.refl _)
  obtain ⟨T4, X4, q4, st4⟩ := X2.hget hexec hown (wk W (.fieldLink "java/lang/String" 15 "java/lang/String" "coder" "B")) (hx.mv X2.warmed.alike hh2) (g := (mkF m 7 #[.val (.ref x)] [.ref x])) rfl (rest := []) rfl (hb hbytes d7)
  have c5 : Steps p.tables e below (s₁.setTop (entryFrame m #[.ref x] 1)) (T4.setTop (mkF m 10 #[.val (.ref x)] [.int cd])) := c3.trans (st4 _ (Steps.refl _))
  have c6 : Steps p.tables e below (s₁.setTop (entryFrame m #[.ref x] 1)) (T4.setTop (mkF m 18 #[.val (.ref x)] [.int (1 - cd)])) := by
    rcases hc with rfl | rfl
    · exact c5.trans (by
        refine XS.ifNo X4.here hexec rfl (hb hbytes d10) rfl (i0_ne_f rfl) ?_
        refine iconstV X4.here hexec rfl 1 (hb hbytes d13) (by decide) ?_
        refine XS.goto X4.here hexec rfl (pc0 := 14) rfl (hb hbytes d14) (by decide) rfl ?_
        exact Steps.refl _)
    · exact c5.trans (by
        refine XS.ifYes X4.here hexec rfl (pc0 := 10) rfl (hb hbytes d10) rfl (i0_ne_t (by decide)) (by decide) rfl ?_
        refine iconstV X4.here hexec rfl 0 (hb hbytes d17) (by decide) ?_
        exact Steps.refl _)
  exact ⟨T4, some (.int (1 - cd)), _, _, _, X4, rfl, rfl, rfl, (fun h => by cases h), ⟨rfl, q4.trans hh2⟩, fun fs hl => c6.trans (X4.ireturnOut hexec hret (by rcases hc with rfl | rfl <;> rfl) (Or.inr (Or.inl rfl)) (hb hbytes d18) hl)⟩
end IsL
namespace LChA
def yN : MethodName := ⟨"java/lang/StringLatin1", "charAt", "([BI)C"⟩
abbrev yB : ByteArray := jdk_43_method_2_code
theorem d0 : decode yB 0 = .ok (.iload_n 1, 1) := by decide +kernel
theorem d1 : decode yB 1 = .ok (.aload_n 0, 1) := by decide +kernel
theorem d2 : decode yB 2 = .ok (.arraylength, 1) := by decide +kernel
theorem d3 : decode yB 3 = .ok (.invokestatic 9, 3) := by decide +kernel
theorem d6 : decode yB 6 = .ok (.aload_n 0, 1) := by decide +kernel
theorem d7 : decode yB 7 = .ok (.iload_n 1, 1) := by decide +kernel
theorem d8 : decode yB 8 = .ok (.baload, 1) := by decide +kernel
theorem d9 : decode yB 9 = .ok (.sipush 255, 3) := by decide +kernel
theorem d12 : decode yB 12 = .ok (.iand, 1) := by decide +kernel
theorem d13 : decode yB 13 = .ok (.i2c, 1) := by decide +kernel
theorem d14 : decode yB 14 = .ok (.ireturn, 1) := by decide +kernel
def site : List Cond := [JO.Str_checkIndex.tab] ++ staticW "java/lang/StringLatin1" 9 JO.Str_checkIndex.yN
def tab : Cond := tabOf yN yB 2 (some .char) site
def P (t : Addr) (V : Cell) (i : Nat) (u : Int32) (fm : Value) (args : Array Value) (s : State) : Prop := args = #[.ref t, .int (Int32.ofNat i)] ∧ XT.Arr .byte t V s ∧ V.slots[i]? = some (.int u) ∧ (StaticIs s "jdk/internal/util/Preconditions" "SIOOBE_FORMATTER" "Ljava/util/function/BiFunction;" fm ∧ fm.isRef = true)
def E (u : Int32) (r : Option Value) (s w : State) : Prop := XT.PureE (some (.int (chr8 u))) r s w
theorem law (l : Launch) (t : Addr) (V : Cell) (i : Nat) (u : Int32) (fm : Value) : Law l yN 2 2 2 27 yB 2 (some .char) site (P t V i u fm) (E u) [] 0 0 := by
  refine Law.of_walk (plainFor_of_name (by decide +kernel)) (by decide +kernel) (by decide +kernel) (by decide) (fun _ _ h => by rw [h.1]; rfl) (fun _ U U' hal hh h => ⟨h.1, h.2.1.mv hal hh, h.2.2.1, h.2.2.2.1.there hal hh, h.2.2.2.2⟩) (fun r U U' V V' h1 hal h2 h => XT.PureE.mv r U U' V V' h1 hal h2 h) ?_
  intro p e s m args below meth c s₁ X0 hexec hbytes hml hret hlk hnm hown hh0 W hP
  obtain ⟨rfl, hV, hu, s1, rf⟩ := hP
  have v31 := hV.2.2.2
  have hi : i < V.slots.size := (Array.getElem?_eq_some_iff.mp hu).1
  have c1 : Steps p.tables e below (s₁.setTop (entryFrame m #[.ref t, .int (Int32.ofNat i)] 2)) (s₁.setTop (mkF m 0 #[.val (.ref t), .val (.int (Int32.ofNat i))] [])) := entry rfl
  have c2 : Steps p.tables e below (s₁.setTop (entryFrame m #[.ref t, .int (Int32.ofNat i)] 2)) (s₁.setTop (mkF m 3 #[.val (.ref t), .val (.int (Int32.ofNat i))] [.int (Int32.ofNat V.slots.size), .int (Int32.ofNat i)])) := c1.trans (by
    refine XS.iloadN X0.here hexec rfl (hb hbytes d0) rfl ?_
    refine XS.aloadN X0.here hexec rfl (hb hbytes d1) rfl rfl ?_
    refine X0.alen hexec (hV.mv X0.warmed.alike hh0) rfl rfl (hb hbytes d2) ?_
    exact Steps.refl _)
  obtain ⟨v3, T3, X3, E3, g3⟩ := X0.callS hexec (JO.Str_checkIndex.law l (Int32.ofNat i) (Int32.ofNat V.slots.size) fm) hown (wks W (staticW "java/lang/StringLatin1" 9 JO.Str_checkIndex.yN)) (wk W JO.Str_checkIndex.tab) (W := 0) (Nat.le_of_ble_eq_true rfl) (Nat.le_of_ble_eq_true rfl) (Nat.le_refl _) (Nat.le_refl _) (g := (mkF m 3 #[.val (.ref t), .val (.int (Int32.ofNat i))] [.int (Int32.ofNat V.slots.size), .int (Int32.ofNat i)])) rfl (by rw [hml]; rfl) c2 (argsL := [.int (Int32.ofNat i), .int (Int32.ofNat V.slots.size)]) (rest := []) rfl rfl (by show 2 * 0 + 0 ≤ _; decide) (hb hbytes d3) (⟨rfl, rf, s1.there X0.warmed.alike hh0, Int32.ofNat_not_neg (by omega), lt32 v31 hi⟩)
  obtain ⟨rfl, q3⟩ := E3
  have hh3 := q3.trans hh0
  have c4 : Steps p.tables e below (s₁.setTop (entryFrame m #[.ref t, .int (Int32.ofNat i)] 2)) (T3.setTop (mkF m 14 #[.val (.ref t), .val (.int (Int32.ofNat i))] [.int (chr8 u)])) := Steps.trans g3 (by
    refine XS.aloadN X3.here hexec rfl (hb hbytes d6) rfl rfl ?_
    refine XS.iloadN X3.here hexec rfl (hb hbytes d7) rfl ?_
    refine X3.aget hexec (hV.mv X3.warmed.alike hh3) rfl hu rfl rfl (hb hbytes d8) ?_
    refine sipushV X3.here hexec rfl 255 (hb hbytes d9) (by decide) ?_
    refine XS.iand X3.here hexec rfl (hb hbytes d12) rfl ?_
    refine i2c X3.here hexec rfl (hb hbytes d13) rfl ?_
    exact Steps.refl _)
  exact ⟨T3, some (.int (chr8 u)), _, _, _, X3, rfl, rfl, rfl, (fun h => by cases h), ⟨rfl, hh3⟩, fun fs hl => c4.trans (X3.ireturnOut hexec hret (narrow_c _) (Or.inr (Or.inr (Or.inr (Or.inl rfl)))) (hb hbytes d14) hl)⟩
end LChA
end StrChars
namespace StrChars.Road
open Jvm Sem ClassFile Op Lib Jvm.Stand Jvm.Free Jvm.Free.XT
open Jvm.Lib.Cold (StaticIs)
theorem consq {a : Array Value} {s : State} {c : Jvm.Cond} {L : List Jvm.Cond} (h0 : c.before a s = true) (h : ∀ w ∈ L, w.before a s = true) : ∀ w ∈ c :: L, w.before a s = true := fun w hw => (List.mem_cons.mp hw).elim (fun e => e ▸ h0) (h w)
/-- the words of String.length(), either coding -/
abbrev wordsLen : List Jvm.Cond := [.code Len.yN Len.yB 1 (some .int), .initialized ST, .fieldLink ST 9 ST "value" "[B", .fieldLink ST 38 ST "COMPACT_STRINGS" "Z", .fieldLink ST 15 ST "coder" "B", .code Cdr.yN Cdr.yB 1 (some .byte), .methodLink ST 335 Cdr.yN, .declares Cdr.yN, .selects ST Cdr.yN Cdr.yN, .instanceMethod Cdr.yN]
theorem tabLen_of {a : Array Value} {s : State} (h : ∀ w ∈ wordsLen, w.before a s = true) : Len.tab.before a s = true := by
  have hc : Cdr.tab.before a s = true := unparts (wk h (.code Cdr.yN Cdr.yB 1 (some .byte))) (wks h (.initialized Cdr.yN.cls :: Cdr.site))
  have q := consq hc h
  exact unparts (wk q (.code Len.yN Len.yB 1 (some .int))) (wks q (.initialized Len.yN.cls :: Len.site))
theorem movedLen {Z s : State} {a0 args : Array Value} (hZ : Z.Warmed39 s.vm) (hw : ∀ d ∈ wordsLen, d.before a0 Z = true) : ∀ d ∈ wordsLen, d.before args s = true := fun d hd => by
  have q := hw d hd
  have t : ∀ d ∈ wordsLen, d = .arrayClass .byte ∨ (d.onTables && d.keepsFace) = true := by decide +kernel
  rcases t d hd with rfl | t
  · exact RoadKit.mvA hZ q
  · exact RoadKit.mv hZ q t
/-- the bytes of the chars cs, low before high -/
def wideBytes : List Int32 → List Value
  | [] => []
  | c :: cs => .int (lo8 c) :: .int (hi8 c) :: wideBytes cs
theorem wide_lo (d : Value) : ∀ (cs : List Int32) (j : Nat), j < cs.length → (wideBytes cs).getD (2 * j) d = .int (lo8 (cs.getD j 0))
  | [], j, h => absurd h (Nat.not_lt_zero j)
  | c :: cs, 0, _ => rfl
  | c :: cs, j + 1, h => by
    have q := wide_lo d cs j (by simpa using h)
    rw [show 2 * (j + 1) = 2 * j + 1 + 1 from by omega]
    simpa [wideBytes] using q
theorem wide_hi (d : Value) : ∀ (cs : List Int32) (j : Nat), j < cs.length → (wideBytes cs).getD (2 * j + 1) d = .int (hi8 (cs.getD j 0))
  | [], j, h => absurd h (Nat.not_lt_zero j)
  | c :: cs, 0, _ => rfl
  | c :: cs, j + 1, h => by
    have q := wide_hi d cs j (by simpa using h)
    rw [show 2 * (j + 1) + 1 = 2 * j + 1 + 1 + 1 from by omega]
    simpa [wideBytes] using q
theorem low_at (d : Value) (cs : List Int32) (j : Nat) (h : j < cs.length) : (cs.map fun c => Value.int (lo8 c)).getD j d = .int (lo8 (cs.getD j 0)) := by
  simp [List.getD_eq_getElem?_getD, h]
/-- an array of N2 bytes vs codes the chars cs by the coder cd -/
def CodA (cs : List Int32) (cd N2 : Int32) (vs : List Value) : Prop := (cd = 0 ∧ N2 = Int32.ofNat cs.length ∧ vs = (cs.map fun c => Value.int (lo8 c)) ∧ ∀ c ∈ cs, ¬ 255 < c) ∨ (cd = 1 ∧ N2 = Int32.ofNat (2 * cs.length) ∧ vs = wideBytes cs ∧ ∃ c ∈ cs, 255 < c)
theorem CodA.cod {cs : List Int32} {cd N2 : Int32} {vs : List Value} {V : Cell} (h : CodA cs cd N2 vs) (hn : 2 * cs.length < 2 ^ 31) (hs : V.slots.size = N2.toNatClampNeg) (hv : RoadKit.Has V vs (.int 0)) : Cod cd cs.length (fun j => cs.getD j 0) V := by
  rcases h with ⟨rfl, rfl, rfl, h⟩ | ⟨rfl, rfl, rfl, c, hc, hw⟩
  · rw [n32 (by omega)] at hs
    exact Or.inl ⟨rfl, hs, fun j hj => ⟨by rw [hv j (by omega), low_at _ _ _ hj], by
      have e : cs.getD j 0 = cs[j] := by simp [List.getD_eq_getElem?_getD, hj]
      show ¬ 255 < cs.getD j 0
      rw [e]; exact h _ (List.getElem_mem _)⟩⟩
  · rw [n32 (by omega)] at hs
    obtain ⟨j, hj, rfl⟩ := List.getElem_of_mem hc
    exact Or.inr ⟨rfl, hs, fun j hj => ⟨by rw [hv _ (by omega), wide_lo _ _ _ hj], by rw [hv _ (by omega), wide_hi _ _ _ hj]⟩, j, hj, by
      have e : cs.getD j 0 = cs[j] := by simp [List.getD_eq_getElem?_getD, hj]
      show 255 < cs.getD j 0
      rw [e]; exact hw⟩
/-- an object of exactly java/lang/String, its two fields found: as the laws ask it -/
theorem strObj {Z U : State} {a0 : Array Value} {kI : Nat} (wi : (Jvm.Cond.instantiable ST kI).before a0 Z = true) (al : Z.vm.Alike U.vm) {x : Addr} {v0 c0 : Value} (E : RoadKit.Exa Z U.heap x ST) (V : RoadKit.Fld Z U.heap x ST "value" "[B" v0) (C : RoadKit.Fld Z U.heap x ST "coder" "B" c0) :
    ∃ (D : Cell) (fV fC : Field), Blank ST x D U ∧ Found ST "value" "[B" fV U ∧ Found ST "coder" "B" fC U ∧ D.slots[fV.slot]? = some v0 ∧ D.slots[fC.slot]? = some c0 ∧ RoadKit.slotOf Z ST "value" "[B" = fV.slot ∧ RoadKit.slotOf Z ST "coder" "B" = fC.slot := by
  obtain ⟨D, cfV, kV, iV, fV, hD, gV, stV, knV, obV, asV, slV⟩ := V
  obtain ⟨D', cfC, kC, iC, fC, hD', gC, stC, -, -, asC, slC⟩ := C
  cases hD.symm.trans hD'
  obtain ⟨D2, kD, e1, e2, e3, e4, e5⟩ := E
  cases hD.symm.trans e1
  obtain ⟨c2, k2, i1, i2, i3, -⟩ := Cond.instantiable_spec wi
  cases e2.symm.trans i1
  cases e3.symm.trans i2
  obtain ⟨kU, u1, u2⟩ := al.2.2 _ _ e3
  exact ⟨D, fV, fC, ⟨hD, ⟨knV, fun q hq => by rw [hq] at obV; cases obV⟩, by rw [al.findClass]; exact e2, kU, u1, by rw [u2]; exact i3, by rw [u2]; exact e5 i3⟩, ⟨SBG.found_only al ⟨cfV, kV, iV, gV⟩, stV⟩, ⟨SBG.found_only al ⟨cfC, kC, iC, gC⟩, stC⟩, slV, slC, by simp [RoadKit.slotOf, gV], by simp [RoadKit.slotOf, gC]⟩
theorem sta_is {Z U : State} (al : Z.vm.Alike U.vm) {C n d : String} {v : Value} (S : RoadKit.Sta Z U.heap C n d v) : StaticIs U C n d v := by
  obtain ⟨cfS, iS, kS, fS, st, cS, t1, t2, t3, t4, t5, t6, t7⟩ := S
  exact StaticIs.there (s := { Z with heap := U.heap }) ⟨cfS, iS, kS, fS, st, cS, t1, t2, t3, t4, t5, (fun q => by rw [q] at t6; cases t6), t7⟩ al rfl
/-- **length() OF SUCH A STRING** -/
theorem lenW {p : Program} {l : Launch} {e : Env} {R : Room} {s : State} {args : Array Value} {below : List Frame} {len W : Nat} {Z : State} {a0 : Array Value} {h : Heap} (hZ : Z.Warmed39 s.vm) (hw : ∀ d ∈ wordsLen, d.before a0 Z = true) {kI : Nat} (wi : (Jvm.Cond.instantiable ST kI).before a0 Z = true)
    {x t : Addr} {kb : ClassId} {cs : List Int32} {cd N2 z : Int32} {vs : List Value} (E : RoadKit.Exa Z h x ST) (V : RoadKit.Fld Z h x ST "value" "[B" (.ref t)) (C : RoadKit.Fld Z h x ST "coder" "B" (.int cd)) (K : RoadKit.Arv Z h t kb .byte N2 vs (.int 0)) (hc : CodA cs cd N2 vs) (hb : ∀ c ∈ cs, ¬ c < 0 ∧ ¬ (65535 : Int32) < c)
    (S : RoadKit.Sta Z h ST "COMPACT_STRINGS" "Z" (.int z)) (hz : ¬ z = 0) (l2 : cs.length ≤ 4000) (hfr : 2 ≤ R.frames) (hlo : W + 25 ≤ R.locals) :
    Back l R p e below s args (⟨"java/lang/String", "length", "()I"⟩ : MethodName) len W (fun P a => a = #[.ref x] ∧ P.U.heap = h ∧ P.cells + 0 ≤ R.cells ∧ P.slots + 0 ≤ R.slots)
      (fun P _ v B => ∃ L, (v = some (.int (Int32.ofNat cs.length)) ∧ L = [] ∧ B.U.heap = h) ∧ B.locs = P.locs ++ L ∧ B.cells = P.cells + 0 ∧ B.slots = P.slots + 0) := by
  obtain ⟨A, K1, K2, K3, K4, K5, K6⟩ := K
  have hcod := hc.cod (by omega) K3 K5
  intro m meth c P g ig mk a X hg hsize hdg hW hn hp'
  obtain ⟨rfl, rfl, r1, r2⟩ := hp'
  have al : Z.vm.Alike P.U.vm := hZ.alike.trans X.warmed.alike
  obtain ⟨D, fV, fC, hB, F1, F2, g1, g2, -, -⟩ := strObj wi al E V C
  have hx : Txt x t A cd cs.length (fun j => cs.getD j 0) P.U := ⟨⟨_, hB.2.2.1, D, hB.1, rfl, by cases q : D.vm <;> first | rfl | exact absurd q (hB.2.1.2 _)⟩, Has.of hB F1 g1, Has.of hB F2 g2, ⟨K1.1, State.isArrayOf_alike al K1.2.1, K1.2.2, by rcases hcod with ⟨-, q, -⟩ | ⟨-, q, -⟩ <;> omega⟩, hcod, fun j hj => by
    have e : cs.getD j 0 = cs[j] := by simp [List.getD_eq_getElem?_getD, hj]
    show ¬ cs.getD j 0 < 0 ∧ ¬ 65535 < cs.getD j 0
    rw [e]; exact hb _ (List.getElem_mem _)⟩
  obtain ⟨v, B, X', ⟨⟨hv, hh⟩, hl, hk, hs⟩, st⟩ := Len.pays x t A cd cs.length (fun j => cs.getD j 0) z (tabLen_of (movedLen hZ hw)) hfr hlo m meth c P g ig mk _ X hg hsize hdg hW hn ⟨r1, r2, rfl, hx, sta_is al S, hz⟩
  exact ⟨v, B, X', ⟨[], ⟨hv, rfl, hh⟩, hl, hk, hs⟩, st⟩
end StrChars.Road
namespace StrChars
open Jvm Sem ClassFile Op Lib Jvm.Stand Jvm.Free.XT Jvm.Free.ALB Jvm.Free.JM Jvm.Free
open Jvm.Lib.Cold (StaticIs)
namespace Emp
def yN : MethodName := ⟨"java/lang/String", "isEmpty", "()Z"⟩
abbrev yB : ByteArray := jdk_42_method_55_code
theorem d0 : decode yB 0 = .ok (.aload_n 0, 1) := by decide +kernel
theorem d1 : decode yB 1 = .ok (.getfield 9, 3) := by decide +kernel
theorem d4 : decode yB 4 = .ok (.arraylength, 1) := by decide +kernel
theorem d5 : decode yB 5 = .ok (.ifCond (.ne) 7, 3) := by decide +kernel
theorem d8 : decode yB 8 = .ok (.iconst 1, 1) := by decide +kernel
theorem d9 : decode yB 9 = .ok (.goto 4, 3) := by decide +kernel
theorem d12 : decode yB 12 = .ok (.iconst 0, 1) := by decide +kernel
theorem d13 : decode yB 13 = .ok (.ireturn, 1) := by decide +kernel
def site : List Cond := [.fieldLink "java/lang/String" 9 "java/lang/String" "value" "[B"]
def tab : Cond := tabOf yN yB 1 (some .boolean) site
def P (x t : Addr) (V : Cell) (cd : Int32) (n : Nat) (f : Nat → Int32) (args : Array Value) (s : State) : Prop := args = #[.ref x] ∧ Txt x t V cd n f s
def E (n : Nat) (r : Option Value) (s u : State) : Prop := XT.PureE (some (.int (if n = 0 then 1 else 0))) r s u
/-- isEmpty() of a String of n chars -/
theorem law (l : Launch) (x t : Addr) (V : Cell) (cd : Int32) (n : Nat) (f : Nat → Int32) : Law l yN 1 0 0 0 yB 1 (some .boolean) site (P x t V cd n f) (E n) [] 0 0 := by
  refine Law.of_walk (plainFor_of_name (by decide +kernel)) (by decide +kernel) (by decide +kernel) (by decide) (fun _ _ h => by rw [h.1]; rfl) (fun _ U U' hal hh h => ⟨h.1, h.2.mv hal hh⟩) (fun r U U' V V' h1 hal h2 h => XT.PureE.mv r U U' V V' h1 hal h2 h) ?_
  intro p e s m args below meth c s₁ X0 hexec hbytes hml hret hlk hnm hown hh0 W hP
  obtain ⟨rfl, hx⟩ := hP
  have v31 := hx.2.2.2.1.2.2.2
  have c1 : Steps p.tables e below (s₁.setTop (entryFrame m #[.ref x] 1)) (s₁.setTop (mkF m 1 #[.val (.ref x)] [.ref x])) := Steps.trans (entry rfl) (by
    show Steps p.tables e below (s₁.setTop (mkF m 0 #[.val (.ref x)] [])) _
    refine XS.aloadN X0.here hexec rfl (hb hbytes d0) rfl rfl ?_
    exact Steps.refl _)
  obtain ⟨T2, X2, q2, st2⟩ := X0.hget hexec hown (wk W (.fieldLink "java/lang/String" 9 "java/lang/String" "value" "[B")) (hx.mv X0.warmed.alike hh0).2.1 (g := (mkF m 1 #[.val (.ref x)] [.ref x])) rfl (rest := []) rfl (hb hbytes d1)
  have hh2 := q2.trans hh0
  have hx2 := hx.mv X2.warmed.alike hh2
  have c3 : Steps p.tables e below (s₁.setTop (entryFrame m #[.ref x] 1)) (T2.setTop (mkF m 5 #[.val (.ref x)] [.int (Int32.ofNat V.slots.size)])) := (c1.trans (st2 _ (Steps.refl _))).trans (by
    refine X2.alen hexec hx2.2.2.2.1 rfl rfl (hb hbytes d4) ?_
    exact Steps.refl _)
  have hz : V.slots.size = 0 ↔ n = 0 := by
    rcases hx.2.2.2.2.1 with ⟨-, q, -⟩ | ⟨-, q, -⟩ <;> omega
  by_cases h0 : n = 0
  · have c4 : Steps p.tables e below (s₁.setTop (entryFrame m #[.ref x] 1)) (T2.setTop (mkF m 13 #[.val (.ref x)] [.int 1])) := c3.trans (by
      refine XS.ifNo X2.here hexec rfl (hb hbytes d5) rfl (i0_ne_f (by rw [hz.mpr h0]; rfl)) ?_
      refine iconstV X2.here hexec rfl 1 (hb hbytes d8) (by decide) ?_
      refine XS.goto X2.here hexec rfl (pc0 := 9) rfl (hb hbytes d9) (by decide) rfl ?_
      exact Steps.refl _)
    exact ⟨T2, some (.int 1), _, _, _, X2, rfl, rfl, rfl, (fun h => by cases h), ⟨by rw [if_pos h0], hh2⟩, fun fs hl => c4.trans (X2.ireturnOut hexec hret rfl (Or.inr (Or.inl rfl)) (hb hbytes d13) hl)⟩
  · have c4 : Steps p.tables e below (s₁.setTop (entryFrame m #[.ref x] 1)) (T2.setTop (mkF m 13 #[.val (.ref x)] [.int 0])) := c3.trans (by
      refine XS.ifYes X2.here hexec rfl (pc0 := 5) rfl (hb hbytes d5) rfl (i0_ne_t (nz32 v31 (by omega))) (by decide) rfl ?_
      refine iconstV X2.here hexec rfl 0 (hb hbytes d12) (by decide) ?_
      exact Steps.refl _)
    exact ⟨T2, some (.int 0), _, _, _, X2, rfl, rfl, rfl, (fun h => by cases h), ⟨by rw [if_neg h0], hh2⟩, fun fs hl => c4.trans (X2.ireturnOut hexec hret rfl (Or.inr (Or.inl rfl)) (hb hbytes d13) hl)⟩
theorem pays {l : Launch} {R : Room} {p : Program} {e : Env} {below : List Frame} {s : State} {sargs : Array Value} {len W : Nat} (x t : Addr) (V : Cell) (cd : Int32) (n : Nat) (f : Nat → Int32) (htab : tab.before sargs s = true) (hfr : 1 ≤ R.frames) (hlo : W + 12 ≤ R.locals) :
    Back l R p e below s sargs yN len W (fun A₁ a₁ => A₁.cells + 0 ≤ R.cells ∧ A₁.slots + 0 ≤ R.slots ∧ P x t V cd n f a₁ A₁.U) (fun A₁ _ v₁ B₁ => E n v₁ A₁.U B₁.U ∧ B₁.locs = A₁.locs ++ [] ∧ B₁.cells = A₁.cells + 0 ∧ B₁.slots = A₁.slots + 0) :=
  (law l x t V cd n f).pays htab hfr (by omega)
end Emp
end StrChars
namespace StrChars.Road
open Jvm Sem ClassFile Op Lib Jvm.Stand Jvm.Free Jvm.Free.XT
open Jvm.Lib.Cold (StaticIs)
/-- the words of String.isEmpty() -/
abbrev wordsEmp : List Jvm.Cond := [.code Emp.yN Emp.yB 1 (some .boolean), .initialized ST, .fieldLink ST 9 ST "value" "[B"]
theorem tabEmp_of {a : Array Value} {s : State} (h : ∀ w ∈ wordsEmp, w.before a s = true) : Emp.tab.before a s = true := unparts (wk h (.code Emp.yN Emp.yB 1 (some .boolean))) (wks h (.initialized Emp.yN.cls :: Emp.site))
theorem movedEmp {Z s : State} {a0 args : Array Value} (hZ : Z.Warmed39 s.vm) (hw : ∀ d ∈ wordsEmp, d.before a0 Z = true) : ∀ d ∈ wordsEmp, d.before args s = true := fun d hd => by
  have t : ∀ d ∈ wordsEmp, (d.onTables && d.keepsFace) = true := by decide +kernel
  exact RoadKit.mv hZ (hw d hd) (t d hd)
/-- the road's facts of a String, as the laws ask it -/
theorem txt_of {Z U : State} {a0 : Array Value} {kI : Nat} (wi : (Jvm.Cond.instantiable ST kI).before a0 Z = true) (al : Z.vm.Alike U.vm) {x t : Addr} {kb : ClassId} {cs : List Int32} {cd N2 : Int32} {vs : List Value} (E : RoadKit.Exa Z U.heap x ST) (V : RoadKit.Fld Z U.heap x ST "value" "[B" (.ref t)) (C : RoadKit.Fld Z U.heap x ST "coder" "B" (.int cd)) (K : RoadKit.Arv Z U.heap t kb .byte N2 vs (.int 0)) (hc : CodA cs cd N2 vs) (hb : ∀ c ∈ cs, ¬ c < 0 ∧ ¬ (65535 : Int32) < c) (l2 : cs.length ≤ 4000) :
    ∃ A, Txt x t A cd cs.length (fun j => cs.getD j 0) U := by
  obtain ⟨A, K1, K2, K3, K4, K5, K6⟩ := K
  have hcod := hc.cod (by omega) K3 K5
  obtain ⟨D, fV, fC, hB, F1, F2, g1, g2, -, -⟩ := strObj wi al E V C
  exact ⟨A, ⟨_, hB.2.2.1, D, hB.1, rfl, by cases q : D.vm <;> first | rfl | exact absurd q (hB.2.1.2 _)⟩, Has.of hB F1 g1, Has.of hB F2 g2, ⟨K1.1, State.isArrayOf_alike al K1.2.1, K1.2.2, by rcases hcod with ⟨-, q, -⟩ | ⟨-, q, -⟩ <;> omega⟩, hcod, fun j hj => by
    have e : cs.getD j 0 = cs[j] := by simp [List.getD_eq_getElem?_getD, hj]
    show ¬ cs.getD j 0 < 0 ∧ ¬ 65535 < cs.getD j 0
    rw [e]; exact hb _ (List.getElem_mem _)⟩
/-- **isEmpty() OF SUCH A STRING** -/
theorem empW {p : Program} {l : Launch} {e : Env} {R : Room} {s : State} {args : Array Value} {below : List Frame} {len W : Nat} {Z : State} {a0 : Array Value} {h : Heap} (hZ : Z.Warmed39 s.vm) (hw : ∀ d ∈ wordsEmp, d.before a0 Z = true) {kI : Nat} (wi : (Jvm.Cond.instantiable ST kI).before a0 Z = true)
    {x t : Addr} {kb : ClassId} {cs : List Int32} {cd N2 : Int32} {vs : List Value} (E : RoadKit.Exa Z h x ST) (V : RoadKit.Fld Z h x ST "value" "[B" (.ref t)) (C : RoadKit.Fld Z h x ST "coder" "B" (.int cd)) (K : RoadKit.Arv Z h t kb .byte N2 vs (.int 0)) (hc : CodA cs cd N2 vs) (hb : ∀ c ∈ cs, ¬ c < 0 ∧ ¬ (65535 : Int32) < c) (l2 : cs.length ≤ 4000) (hfr : 1 ≤ R.frames) (hlo : W + 12 ≤ R.locals) :
    Back l R p e below s args (⟨"java/lang/String", "isEmpty", "()Z"⟩ : MethodName) len W (fun P a => a = #[.ref x] ∧ P.U.heap = h ∧ P.cells + 0 ≤ R.cells ∧ P.slots + 0 ≤ R.slots)
      (fun P _ v B => ∃ L, (v = some (.int (if cs.length = 0 then 1 else 0)) ∧ L = [] ∧ B.U.heap = h) ∧ B.locs = P.locs ++ L ∧ B.cells = P.cells + 0 ∧ B.slots = P.slots + 0) := by
  intro m meth c P g ig mk a X hg hsize hdg hW hn hp'
  obtain ⟨rfl, rfl, r1, r2⟩ := hp'
  have al : Z.vm.Alike P.U.vm := hZ.alike.trans X.warmed.alike
  obtain ⟨A, hx⟩ := txt_of wi al E V C K hc hb l2
  obtain ⟨v, B, X', ⟨⟨hv, hh⟩, hl, hk, hs⟩, st⟩ := Emp.pays x t A cd cs.length (fun j => cs.getD j 0) (tabEmp_of (movedEmp hZ hw)) hfr hlo m meth c P g ig mk _ X hg hsize hdg hW hn ⟨r1, r2, rfl, hx⟩
  exact ⟨v, B, X', ⟨[], ⟨hv, rfl, hh⟩, hl, hk, hs⟩, st⟩
end StrChars.Road
namespace StrChars
open Jvm Sem ClassFile Op Lib Jvm.Stand Jvm.Free.XT Jvm.Free.ALB Jvm.Free.JM Jvm.Free
open Jvm.Lib.Cold (StaticIs)
namespace ChN
def yN : MethodName := ⟨"java/lang/String", "charAt", "(I)C"⟩
abbrev yB : ByteArray := jdk_42_method_56_code
theorem d0 : decode yB 0 = .ok (.aload_n 0, 1) := by decide +kernel
theorem d1 : decode yB 1 = .ok (.invokevirtual 492, 3) := by decide +kernel
theorem d4 : decode yB 4 = .ok (.ifCond (.eq) 12, 3) := by decide +kernel
theorem d7 : decode yB 7 = .ok (.aload_n 0, 1) := by decide +kernel
theorem d8 : decode yB 8 = .ok (.getfield 9, 3) := by decide +kernel
theorem d11 : decode yB 11 = .ok (.iload_n 1, 1) := by decide +kernel
theorem d12 : decode yB 12 = .ok (.invokestatic 495, 3) := by decide +kernel
theorem d15 : decode yB 15 = .ok (.ireturn, 1) := by decide +kernel
def site : List Cond := [.fieldLink "java/lang/String" 9 "java/lang/String" "value" "[B", IsL.tab, LChA.tab] ++ virtW "java/lang/String" 492 "java/lang/String" IsL.yN IsL.yN ++ staticW "java/lang/String" 495 LChA.yN
def tab : Cond := tabOf yN yB 2 (some .char) site
def P (x t : Addr) (V : Cell) (n : Nat) (f : Nat → Int32) (z : Int32) (fm : Value) (i : Nat) (args : Array Value) (s : State) : Prop := args = #[.ref x, .int (Int32.ofNat i)] ∧ Txt x t V 0 n f s ∧ i < n ∧ StaticIs s "java/lang/String" "COMPACT_STRINGS" "Z" (.int z) ∧ ¬ z = 0 ∧ StaticIs s "jdk/internal/util/Preconditions" "SIOOBE_FORMATTER" "Ljava/util/function/BiFunction;" fm ∧ fm.isRef = true
def E (f : Nat → Int32) (i : Nat) (r : Option Value) (s u : State) : Prop := XT.PureE (some (.int (f i))) r s u
/-- charAt(i) of a Latin-1 String of n chars, i < n: f i -/
theorem law (l : Launch) (x t : Addr) (V : Cell) (n : Nat) (f : Nat → Int32) (z : Int32) (fm : Value) (i : Nat) : Law l yN 2 1 3 40 yB 2 (some .char) site (P x t V n f z fm i) (E f i) [] 0 0 := by
  refine Law.of_walk (plainFor_of_name (by decide +kernel)) (by decide +kernel) (by decide +kernel) (by decide) (fun _ _ h => by rw [h.1]; rfl) (fun _ U U' hal hh h => ⟨h.1, h.2.1.mv hal hh, h.2.2.1, h.2.2.2.1.there hal hh, h.2.2.2.2.1, h.2.2.2.2.2.1.there hal hh, h.2.2.2.2.2.2⟩) (fun r U U' V V' h1 hal h2 h => XT.PureE.mv r U U' V V' h1 hal h2 h) ?_
  intro p e s m args below meth c s₁ X0 hexec hbytes hml hret hlk hnm hown hh0 W hP
  obtain ⟨rfl, hx, hi, s1, hz, s3, rf⟩ := hP
  have v31 := hx.2.2.2.1.2.2.2
  have hr := hx.2.2.2.2.2 i hi
  have hx0 := hx.mv X0.warmed.alike hh0
  have c1 : Steps p.tables e below (s₁.setTop (entryFrame m #[.ref x, .int (Int32.ofNat i)] 2)) (s₁.setTop (mkF m 1 #[.val (.ref x), .val (.int (Int32.ofNat i))] [.ref x])) := Steps.trans (entry rfl) (by
    show Steps p.tables e below (s₁.setTop (mkF m 0 #[.val (.ref x), .val (.int (Int32.ofNat i))] [])) _
    refine XS.aloadN X0.here hexec rfl (hb hbytes d0) rfl rfl ?_
    exact Steps.refl _)
  obtain ⟨v2, T2, X2, E2, g2⟩ := X0.callV hexec (IsL.law l x 0 z) hown (wks W (virtW "java/lang/String" 492 "java/lang/String" IsL.yN IsL.yN)) rfl (by decide) (wk W IsL.tab) (W := 0) (Nat.le_of_ble_eq_true rfl) (Nat.le_of_ble_eq_true rfl) (Nat.le_refl _) (Nat.le_refl _) (hx0.1.fc X0.warmed.alike) hx0.1.is (g := (mkF m 1 #[.val (.ref x), .val (.int (Int32.ofNat i))] [.ref x])) rfl (by rw [hml]; rfl) c1 (argsL := []) (rest := []) rfl rfl (by show 2 * 0 + 0 ≤ _; decide) (hb hbytes d1) (⟨rfl, hx0.2.2.1, hx.2.2.2.2.1.cd, s1.there X0.warmed.alike hh0, hz⟩)
  obtain ⟨rfl, q2⟩ := E2
  have hh2 := q2.trans hh0
  have hx2 := hx.mv X2.warmed.alike hh2
  obtain ⟨-, k1, k2⟩ | ⟨k0, -⟩ := hx.2.2.2.2.1
  · have c3 : Steps p.tables e below (s₁.setTop (entryFrame m #[.ref x, .int (Int32.ofNat i)] 2)) (T2.setTop (mkF m 8 #[.val (.ref x), .val (.int (Int32.ofNat i))] [.ref x])) := Steps.trans g2 (by
      refine XS.ifNo X2.here hexec rfl (hb hbytes d4) rfl (i0_eq_f (by decide)) ?_
      refine XS.aloadN X2.here hexec rfl (hb hbytes d7) rfl rfl ?_
      exact Steps.refl _)
    obtain ⟨T4, X4, q4, st4⟩ := X2.hget hexec hown (wk W (.fieldLink "java/lang/String" 9 "java/lang/String" "value" "[B")) hx2.2.1 (g := (mkF m 8 #[.val (.ref x), .val (.int (Int32.ofNat i))] [.ref x])) rfl (rest := []) rfl (hb hbytes d8)
    have hh4 := q4.trans hh2
    have c5 : Steps p.tables e below (s₁.setTop (entryFrame m #[.ref x, .int (Int32.ofNat i)] 2)) (T4.setTop (mkF m 12 #[.val (.ref x), .val (.int (Int32.ofNat i))] [.int (Int32.ofNat i), .ref t])) := (c3.trans (st4 _ (Steps.refl _))).trans (by
      refine XS.iloadN X4.here hexec rfl (hb hbytes d11) rfl ?_
      exact Steps.refl _)
    obtain ⟨v6, T6, X6, E6, g6⟩ := X4.callS hexec (LChA.law l t V i (lo8 (f i)) fm) hown (wks W (staticW "java/lang/String" 495 LChA.yN)) (wk W LChA.tab) (W := 0) (Nat.le_of_ble_eq_true rfl) (Nat.le_of_ble_eq_true rfl) (Nat.le_refl _) (Nat.le_refl _) (g := (mkF m 12 #[.val (.ref x), .val (.int (Int32.ofNat i))] [.int (Int32.ofNat i), .ref t])) rfl (by rw [hml]; rfl) c5 (argsL := [.ref t, .int (Int32.ofNat i)]) (rest := []) rfl rfl (by show 2 * 0 + 0 ≤ _; decide) (hb hbytes d12) (⟨rfl, hx.2.2.2.1.mv X4.warmed.alike hh4, (k2 i hi).1, s3.there X4.warmed.alike hh4, rf⟩)
    obtain ⟨rfl, q6⟩ := E6
    rw [chr8_lo8 hr.1 (k2 i hi).2] at g6
    exact ⟨T6, some (.int (f i)), _, _, _, X6, rfl, rfl, rfl, (fun h => by cases h), ⟨rfl, q6.trans hh4⟩, fun fs hl => Steps.trans g6 (X6.ireturnOut hexec hret (narrow_ch hr.1 hr.2) (Or.inr (Or.inr (Or.inr (Or.inl rfl)))) (hb hbytes d15) hl)⟩
  · exact absurd k0 (by decide)
theorem pays {l : Launch} {R : Room} {p : Program} {e : Env} {below : List Frame} {s : State} {sargs : Array Value} {len W : Nat} (x t : Addr) (V : Cell) (n : Nat) (f : Nat → Int32) (z : Int32) (fm : Value) (i : Nat) (htab : tab.before sargs s = true) (hfr : 4 ≤ R.frames) (hlo : W + 53 ≤ R.locals) :
    Back l R p e below s sargs yN len W (fun A₁ a₁ => A₁.cells + 0 ≤ R.cells ∧ A₁.slots + 0 ≤ R.slots ∧ P x t V n f z fm i a₁ A₁.U) (fun A₁ _ v₁ B₁ => E f i v₁ A₁.U B₁.U ∧ B₁.locs = A₁.locs ++ [] ∧ B₁.cells = A₁.cells + 0 ∧ B₁.slots = A₁.slots + 0) :=
  (law l x t V n f z fm i).pays htab hfr (by omega)
end ChN
end StrChars
namespace StrChars.Road
open Jvm Sem ClassFile Op Lib Jvm.Stand Jvm.Free Jvm.Free.XT
open Jvm.Lib.Cold (StaticIs)
/-- the words of String.charAt(int), the Latin-1 road alone -/
abbrev wordsChN : List Jvm.Cond := [.code ChN.yN ChN.yB 2 (some .char), .initialized ST, .fieldLink ST 9 ST "value" "[B", .fieldLink ST 38 ST "COMPACT_STRINGS" "Z", .fieldLink ST 15 ST "coder" "B", .code IsL.yN IsL.yB 1 (some .boolean), .methodLink ST 492 IsL.yN, .declares IsL.yN, .selects ST IsL.yN IsL.yN, .instanceMethod IsL.yN,
  .methodLink ST 495 LChA.yN, .static LChA.yN, .code LChA.yN LChA.yB 2 (some .char), .initialized "java/lang/StringLatin1", .methodLink "java/lang/StringLatin1" 9 JO.Str_checkIndex.yN, .static JO.Str_checkIndex.yN, .code JO.Str_checkIndex.yN JO.Str_checkIndex.yB 2 none,
  .fieldLink ST 1053 "jdk/internal/util/Preconditions" "SIOOBE_FORMATTER" "Ljava/util/function/BiFunction;", .methodLink ST 1059 JC.PreCheck.yN, .static JC.PreCheck.yN, .code JC.PreCheck.yN JC.PreCheck.yB 3 (some .int), .initialized "jdk/internal/util/Preconditions"]
theorem tabChN_of {a : Array Value} {s : State} (h : ∀ w ∈ wordsChN, w.before a s = true) : ChN.tab.before a s = true := by
  have hp : JC.PreCheck.tab.before a s = true := unparts (wk h (.code JC.PreCheck.yN JC.PreCheck.yB 3 (some .int))) (wks h (.initialized JC.PreCheck.yN.cls :: JC.PreCheck.site))
  have qk := consq hp h
  have hk : JO.Str_checkIndex.tab.before a s = true := unparts (wk qk (.code JO.Str_checkIndex.yN JO.Str_checkIndex.yB 2 none)) (wks qk (.initialized JO.Str_checkIndex.yN.cls :: JO.Str_checkIndex.site))
  have ql := consq hk h
  have hl : LChA.tab.before a s = true := unparts (wk ql (.code LChA.yN LChA.yB 2 (some .char))) (wks ql (.initialized LChA.yN.cls :: LChA.site))
  have hi : IsL.tab.before a s = true := unparts (wk h (.code IsL.yN IsL.yB 1 (some .boolean))) (wks h (.initialized IsL.yN.cls :: IsL.site))
  have q := consq hi (consq hl h)
  exact unparts (wk q (.code ChN.yN ChN.yB 2 (some .char))) (wks q (.initialized ChN.yN.cls :: ChN.site))
theorem movedChN {Z s : State} {a0 args : Array Value} (hZ : Z.Warmed39 s.vm) (hw : ∀ d ∈ wordsChN, d.before a0 Z = true) : ∀ d ∈ wordsChN, d.before args s = true := fun d hd => by
  have t : ∀ d ∈ wordsChN, (d.onTables && d.keepsFace) = true := by decide +kernel
  exact RoadKit.mv hZ (hw d hd) (t d hd)
/-- **charAt(i) OF A LATIN-1 STRING**, i < n: the char -/
theorem chN {p : Program} {l : Launch} {e : Env} {R : Room} {s : State} {args : Array Value} {below : List Frame} {len W : Nat} {Z : State} {a0 : Array Value} {h : Heap} (hZ : Z.Warmed39 s.vm) (hw : ∀ d ∈ wordsChN, d.before a0 Z = true) {kI : Nat} (wi : (Jvm.Cond.instantiable ST kI).before a0 Z = true)
    {x t : Addr} {kb : ClassId} {cs : List Int32} {N2 z : Int32} {vs : List Value} {fm : Value} {i : Nat} {j : Int32} (E : RoadKit.Exa Z h x ST) (V : RoadKit.Fld Z h x ST "value" "[B" (.ref t)) (C : RoadKit.Fld Z h x ST "coder" "B" (.int 0)) (K : RoadKit.Arv Z h t kb .byte N2 vs (.int 0)) (hc : CodA cs 0 N2 vs) (hb : ∀ c ∈ cs, ¬ c < 0 ∧ ¬ (65535 : Int32) < c)
    (S : RoadKit.Sta Z h ST "COMPACT_STRINGS" "Z" (.int z)) (hz : ¬ z = 0) (F : RoadKit.Sta Z h "jdk/internal/util/Preconditions" "SIOOBE_FORMATTER" "Ljava/util/function/BiFunction;" fm) (rf : fm.isRef = true) (l2 : cs.length ≤ 4000) (hi : i < cs.length) (hj : j = Int32.ofNat i) (hfr : 4 ≤ R.frames) (hlo : W + 53 ≤ R.locals) :
    Back l R p e below s args (⟨"java/lang/String", "charAt", "(I)C"⟩ : MethodName) len W (fun P a => a = #[.ref x, .int j] ∧ P.U.heap = h ∧ P.cells + 0 ≤ R.cells ∧ P.slots + 0 ≤ R.slots)
      (fun P _ v B => ∃ L, (v = some (.int (cs.getD i 0)) ∧ L = [] ∧ B.U.heap = h) ∧ B.locs = P.locs ++ L ∧ B.cells = P.cells + 0 ∧ B.slots = P.slots + 0) := by
  subst hj
  intro m meth c P g ig mk a X hg hsize hdg hW hn hp'
  obtain ⟨rfl, rfl, r1, r2⟩ := hp'
  have al : Z.vm.Alike P.U.vm := hZ.alike.trans X.warmed.alike
  obtain ⟨A, hx⟩ := txt_of wi al E V C K hc hb l2
  obtain ⟨v, B, X', ⟨⟨hv, hh⟩, hl, hk, hs⟩, st⟩ := ChN.pays x t A cs.length (fun j => cs.getD j 0) z fm i (tabChN_of (movedChN hZ hw)) hfr hlo m meth c P g ig mk _ X hg hsize hdg hW hn ⟨r1, r2, rfl, hx, hi, sta_is al S, hz, sta_is al F, rf⟩
  exact ⟨v, B, X', ⟨[], ⟨hv, rfl, hh⟩, hl, hk, hs⟩, st⟩
/-- what backV says of its String, as the contracts of this text ask it: cs's low bytes, coder 0 -/
theorem codOf {cs : List Int32} {n : Nat} (hn : cs.length = n) (hb : ∀ c ∈ cs, ¬ 255 < c) : CodA cs 0 (Int32.ofNat n) ((cs.map lo8).map Value.int) := Or.inl ⟨rfl, by rw [hn], by simp [List.map_map, Function.comp_def], hb⟩
end StrChars.Road
end Jvm.Pilot.@@N@@
namespace Jvm.Pilot.@@N@@
open Jvm Jvm.ClassFile Sem Op Lib Jvm.Free Jvm.Stand Jvm.LawKit Jvm.RoadKit Bundle Jvm.Pilot.@@N@@.Jvm.D
def okc (c : Int32) : Prop := (¬ c < 97 ∧ ¬ 122 < c) ∨ (c < 97 ∧ ¬ c < 65 ∧ ¬ 90 < c) ∨ (c < 97 ∧ c < 65 ∧ ¬ c < 48 ∧ ¬ 57 < c) ∨ c = 95 ∨ c = 45
instance (c : Int32) : Decidable (okc c) := by unfold okc; infer_instance
theorem own_m63 (x : Int32) : ∃ n : Fin 64, x &&& (63 : Int32) = Int32.ofNat n.val := by
  refine ⟨⟨(x &&& 63).toBitVec.toNat, ?_⟩, ?_⟩
  · simp only [Int32.toBitVec_and, BitVec.toNat_and]
    exact Nat.lt_succ_of_le Nat.and_le_right
  · apply Int32.toBitVec_inj.mp
    show _ = BitVec.ofNat 32 _
    rw [BitVec.ofNat_toNat]; simp
theorem own_m3 (x : Int32) : (x &&& (3 : Int32)) + 1 = 1 ∨ (x &&& (3 : Int32)) + 1 = 2 ∨ (x &&& (3 : Int32)) + 1 = 3 ∨ (x &&& (3 : Int32)) + 1 = 4 := by
  obtain ⟨n, hn⟩ : ∃ n : Fin 4, x &&& (3 : Int32) = Int32.ofNat n.val := by
    refine ⟨⟨(x &&& 3).toBitVec.toNat, ?_⟩, ?_⟩
    · simp only [Int32.toBitVec_and, BitVec.toNat_and]
      exact Nat.lt_succ_of_le Nat.and_le_right
    · apply Int32.toBitVec_inj.mp
      show _ = BitVec.ofNat 32 _
      rw [BitVec.ofNat_toNat]; simp
  rw [hn]; clear hn; revert n; decide
theorem own_pk1 (x : Int32) (h : x &&& (63 : Int32) < 26) : okc (nar .char ((97 : Int32) + (x &&& (63 : Int32))).toUInt32.toUInt16.toUInt32.toInt32) := by
  obtain ⟨n, hn⟩ := own_m63 x
  rw [hn] at h ⊢
  exact (by decide +kernel : ∀ n : Fin 64, Int32.ofNat n.val < 26 → okc (nar .char ((97 : Int32) + Int32.ofNat n.val).toUInt32.toUInt16.toUInt32.toInt32)) n h
theorem own_pk2 (x : Int32) (h1 : ¬ x &&& (63 : Int32) < 26) (h : x &&& (63 : Int32) < 52) : okc (nar .char ((65 : Int32) + ((x &&& (63 : Int32)) - (26 : Int32))).toUInt32.toUInt16.toUInt32.toInt32) := by
  obtain ⟨n, hn⟩ := own_m63 x
  rw [hn] at h1 h ⊢
  exact (by decide +kernel : ∀ n : Fin 64, ¬ Int32.ofNat n.val < 26 → Int32.ofNat n.val < 52 → okc (nar .char ((65 : Int32) + (Int32.ofNat n.val - (26 : Int32))).toUInt32.toUInt16.toUInt32.toInt32)) n h1 h
theorem own_pk3 (x : Int32) (h1 : ¬ x &&& (63 : Int32) < 52) (h : x &&& (63 : Int32) < 62) : okc (nar .char ((48 : Int32) + ((x &&& (63 : Int32)) - (52 : Int32))).toUInt32.toUInt16.toUInt32.toInt32) := by
  obtain ⟨n, hn⟩ := own_m63 x
  rw [hn] at h1 h ⊢
  exact (by decide +kernel : ∀ n : Fin 64, ¬ Int32.ofNat n.val < 52 → Int32.ofNat n.val < 62 → okc (nar .char ((48 : Int32) + (Int32.ofNat n.val - (52 : Int32))).toUInt32.toUInt16.toUInt32.toInt32)) n h1 h
theorem own_lat {c : Int32} (h : okc c) : ¬ c < 0 ∧ ¬ (255 : Int32) < c := by
  unfold okc at h
  simp only [Int32.lt_iff_toInt_lt, ← Int32.toInt_inj] at h ⊢
  simp only [show (97 : Int32).toInt = 97 from rfl, show (122 : Int32).toInt = 122 from rfl, show (65 : Int32).toInt = 65 from rfl, show (90 : Int32).toInt = 90 from rfl, show (48 : Int32).toInt = 48 from rfl, show (57 : Int32).toInt = 57 from rfl, show (95 : Int32).toInt = 95 from rfl, show (45 : Int32).toInt = 45 from rfl, show (0 : Int32).toInt = 0 from rfl, show (255 : Int32).toInt = 255 from rfl] at h ⊢
  omega
theorem own_up {cs : List Int32} (h : ∀ c ∈ cs, ¬ c < 0 ∧ ¬ (255 : Int32) < c) : ∀ c ∈ cs, ¬ c < 0 ∧ ¬ (65535 : Int32) < c := fun c hc => ⟨(h c hc).1, fun q => (h c hc).2 (by rw [Int32.lt_iff_toInt_lt] at q ⊢; have e1 : (65535 : Int32).toInt = 65535 := rfl; have e2 : (255 : Int32).toInt = 255 := rfl; omega)⟩
theorem own_nlt {i n : Nat} (h : i < n) (hn : n ≤ 4000) : Int32.ofNat i < Int32.ofNat n := by
  rw [Int32.lt_iff_toInt_lt, Int32.toInt_ofNat_of_lt (by omega), Int32.toInt_ofNat_of_lt (by omega)]
  omega
theorem own_nge {n : Nat} : ¬ Int32.ofNat n < Int32.ofNat n := fun h => Int32.lt_irrefl h
theorem own_one (i : Nat) : Int32.ofNat i + (1 : Int32) = Int32.ofNat (i + 1) := (Int32.ofNat_add i 1).symm
theorem own_n127 {n : Nat} (hn : n ≤ 127) : ¬ (127 : Int32) < Int32.ofNat n := by
  rw [Int32.lt_iff_toInt_lt, Int32.toInt_ofNat_of_lt (by omega)]
  have : (127 : Int32).toInt = 127 := rfl
  omega
theorem own_narc {z : Int32} (h : okc z) : nar .char z = z := by
  obtain ⟨h1, h2⟩ := own_lat h
  have e := c_i2c z
  have e0 : (0 : Int32).toInt = 0 := rfl
  have e255 : (255 : Int32).toInt = 255 := rfl
  rw [Int32.lt_iff_toInt_lt] at h1 h2
  apply Int32.toInt_inj.mp
  show (z.toUInt32.toUInt16.toUInt32.toInt32).toInt = z.toInt
  omega
theorem own_narC {z : Int32} (h1 : ¬ z < 0) (h2 : ¬ (65535 : Int32) < z) : nar .char z = z := by
  have e := c_i2c z
  have e0 : (0 : Int32).toInt = 0 := rfl
  have e255 : (65535 : Int32).toInt = 65535 := rfl
  rw [Int32.lt_iff_toInt_lt] at h1 h2
  apply Int32.toInt_inj.mp
  show (z.toUInt32.toUInt16.toUInt32.toInt32).toInt = z.toInt
  omega
theorem own_i2c (x : Int32) : ¬ x.toUInt32.toUInt16.toUInt32.toInt32 < 0 ∧ ¬ (65535 : Int32) < x.toUInt32.toUInt16.toUInt32.toInt32 := by
  have e := c_i2c x
  have e0 : (0 : Int32).toInt = 0 := rfl
  have e255 : (65535 : Int32).toInt = 65535 := rfl
  simp only [Int32.lt_iff_toInt_lt]
  omega
theorem own_narB (x : Int32) : x.toInt8.toInt32.toInt8.toInt32 = x.toInt8.toInt32 := by
  simp
theorem own_half {n : Nat} (hn : n ≤ 4000) : Int32.ofNat (2 * n) >>> ((1 : Int32) &&& 31) = Int32.ofNat n := by
  apply Int32.toInt_inj.mp
  rw [c_ishr (Int32.ofNat (2 * n)) 1 1 (by decide), Int32.toInt_ofNat_of_lt (by omega), Int32.toInt_ofNat_of_lt (by omega)]
  omega
theorem own_dbl {n : Nat} (hn : n ≤ 4000) : Int32.ofNat n <<< ((1 : Int32) &&& 31) = Int32.ofNat (2 * n) := by
  apply Int32.toInt_inj.mp
  have e := c_ishl (Int32.ofNat n) 1 1 (by decide)
  have r := rng32 (Int32.ofNat n <<< ((1 : Int32) &&& 31))
  rw [Int32.toInt_ofNat_of_lt (by omega)] at e
  rw [Int32.toInt_ofNat_of_lt (by omega)]
  omega
theorem own_nn {n : Nat} (hn : n ≤ 8000) : ¬ Int32.ofNat n < 0 := by
  rw [Int32.lt_iff_toInt_lt, Int32.toInt_ofNat_of_lt (by omega)]
  have : (0 : Int32).toInt = 0 := rfl
  omega
theorem own_lt8 {i n : Nat} (h : i < n) (hn : n ≤ 8000) : Int32.ofNat i < Int32.ofNat n := by
  rw [Int32.lt_iff_toInt_lt, Int32.toInt_ofNat_of_lt (by omega), Int32.toInt_ofNat_of_lt (by omega)]
  omega
theorem own_clamp {n : Nat} (hn : n ≤ 8000) : (Int32.ofNat n).toNatClampNeg = n := by
  simp only [Int32.toNatClampNeg, Int32.toInt_ofNat_of_lt (show n < 2 ^ 31 by omega)]
  rfl
def own_Str (Z : State) (h : Heap) (x : Addr) (cs : List Int32) : Prop := ∃ (t : Addr) (kb : ClassId) (cd N2 : Int32) (vs : List Value), Exa Z h x "java/lang/String" ∧ Fld Z h x "java/lang/String" "value" "[B" (.ref t) ∧ Fld Z h x "java/lang/String" "coder" "B" (.int cd) ∧ Arv Z h t kb .byte N2 vs (.int 0) ∧ StrChars.Road.CodA cs cd N2 vs
def own_QS (Z : State) (x : Addr) (cs : List Int32) (h : Heap) (n0 : Nat) (v : Option Value) (h' : Heap) (L : List Loc) : Prop := v = none ∧ Fr n0 L ∧ Keep h h' [x] ∧ own_Str Z h' x cs
theorem own_staK0 {Z : State} {h h' : Heap} {C n d : String} {v : Value} (S : Sta Z h C n d v) (K : Keep h h' []) : Sta Z h' C n d v := S.ext ⟨K.1, fun a c q => K.2.1 a c q nin0⟩
theorem own_staK {Z : State} {h h' : Heap} {C n d : String} {v : Value} {a : Addr} (S : Sta Z h C n d v) (K : Keep h h' [a]) (A : ∃ c : Cell, h[a]? = some c ∧ c.vm.isStatics = false) : Sta Z h' C n d v := by
  obtain ⟨cf, i, k, f, st, cell, h1, h2, h3, h4, h5, h6, h7⟩ := S
  obtain ⟨c, q1, q2⟩ := A
  have ne : st ≠ a := fun e => by
    subst e
    cases h5.symm.trans q1
    rw [h6] at q2; cases q2
  exact ⟨cf, i, k, f, st, cell, h1, h2, h3, h4, K.2.1 st cell h5 (ninS ne nin0), h6, h7⟩
theorem own_arvOld {Z : State} {h : Heap} {a : Addr} {k : ClassId} {ty : FieldType} {z : Int32} {vs : List Value} {d : Value} (V : Arv Z h a k ty z vs d) : ∃ c : Cell, h[a]? = some c ∧ c.vm.isStatics = false := by
  obtain ⟨c, A, -⟩ := V
  exact ⟨c, A.1, A.plain⟩
theorem own_cls (c : Int32) : (¬ c < 97 ∧ ¬ 122 < c) ∨ (¬ c < 97 ∧ 122 < c ∧ ¬ c < 65 ∧ 90 < c ∧ ¬ c < 48 ∧ 57 < c ∧ ¬ c = 95 ∧ ¬ c = 45) ∨ (c < 97 ∧ ¬ c < 65 ∧ 90 < c ∧ ¬ c < 48 ∧ 57 < c ∧ ¬ c = 95 ∧ ¬ c = 45) ∨ c = 95 ∨ (c < 97 ∧ ¬ c < 65 ∧ ¬ 90 < c) ∨ (c < 97 ∧ c < 65 ∧ ¬ c < 48 ∧ 57 < c ∧ ¬ c = 95 ∧ ¬ c = 45) ∨ (c < 97 ∧ c < 65 ∧ ¬ c < 48 ∧ ¬ 57 < c) ∨ (c < 97 ∧ c < 65 ∧ c < 48 ∧ ¬ c = 95 ∧ ¬ c = 45) ∨ c = 45 := by
  simp only [Int32.lt_iff_toInt_lt, ← Int32.toInt_inj]
  simp only [show (97 : Int32).toInt = 97 from rfl, show (122 : Int32).toInt = 122 from rfl, show (65 : Int32).toInt = 65 from rfl, show (90 : Int32).toInt = 90 from rfl, show (48 : Int32).toInt = 48 from rfl, show (57 : Int32).toInt = 57 from rfl, show (95 : Int32).toInt = 95 from rfl, show (45 : Int32).toInt = 45 from rfl]
  omega
theorem own_no2 {c : Int32} (h : ¬ c < 97 ∧ 122 < c ∧ ¬ c < 65 ∧ 90 < c ∧ ¬ c < 48 ∧ 57 < c ∧ ¬ c = 95 ∧ ¬ c = 45) : ¬ okc c := by
  obtain ⟨a, b, c1, d, e, f, g, i⟩ := h
  unfold okc
  simp [a, b, g, i]
theorem own_no3 {c : Int32} (h : c < 97 ∧ ¬ c < 65 ∧ 90 < c ∧ ¬ c < 48 ∧ 57 < c ∧ ¬ c = 95 ∧ ¬ c = 45) : ¬ okc c := by
  obtain ⟨a, b, c1, d, e, f, g⟩ := h
  unfold okc
  simp [a, b, c1, f, g]
theorem own_no6 {c : Int32} (h : c < 97 ∧ c < 65 ∧ ¬ c < 48 ∧ 57 < c ∧ ¬ c = 95 ∧ ¬ c = 45) : ¬ okc c := by
  obtain ⟨a, b, c1, d, e, f⟩ := h
  unfold okc
  simp [a, b, c1, d, e, f]
theorem own_no8 {c : Int32} (h : c < 97 ∧ c < 65 ∧ c < 48 ∧ ¬ c = 95 ∧ ¬ c = 45) : ¬ okc c := by
  obtain ⟨a, b, c1, d, e⟩ := h
  unfold okc
  simp [a, b, c1, d, e]
theorem own_ok1 {c : Int32} (h : ¬ c < 97 ∧ ¬ 122 < c) : okc c := Or.inl h
theorem own_ok5 {c : Int32} (h : c < 97 ∧ ¬ c < 65 ∧ ¬ 90 < c) : okc c := Or.inr (Or.inl h)
theorem own_ok7 {c : Int32} (h : c < 97 ∧ c < 65 ∧ ¬ c < 48 ∧ ¬ 57 < c) : okc c := Or.inr (Or.inr (Or.inl h))
def own_okv (c : Int32) : Int32 := if okc c then 1 else 0
def own_val (cs : List Int32) : Int32 := if 0 < cs.length ∧ cs.length ≤ 127 ∧ (∀ c ∈ cs, okc c) then 1 else 0
theorem own_m7 (x : Int32) : (x &&& (7 : Int32)) = 0 ∨ (x &&& (7 : Int32)) = 1 ∨ (x &&& (7 : Int32)) = 2 ∨ (x &&& (7 : Int32)) = 3 ∨ (x &&& (7 : Int32)) = 4 ∨ (x &&& (7 : Int32)) = 5 ∨ (x &&& (7 : Int32)) = 6 ∨ (x &&& (7 : Int32)) = 7 := by
  obtain ⟨n, hn⟩ : ∃ n : Fin 8, x &&& (7 : Int32) = Int32.ofNat n.val := by
    refine ⟨⟨(x &&& 7).toBitVec.toNat, ?_⟩, ?_⟩
    · simp only [Int32.toBitVec_and, BitVec.toNat_and]
      exact Nat.lt_succ_of_le Nat.and_le_right
    · apply Int32.toBitVec_inj.mp
      show _ = BitVec.ofNat 32 _
      rw [BitVec.ofNat_toNat]; simp
  rw [hn]; clear hn; revert n; decide
theorem own_g127 {n : Nat} (h : ¬ n ≤ 127) (hn : n ≤ 4000) : (127 : Int32) < Int32.ofNat n := by
  rw [Int32.lt_iff_toInt_lt, Int32.toInt_ofNat_of_lt (by omega)]
  have : (127 : Int32).toInt = 127 := rfl
  omega
theorem own_allD {cs : List Int32} (h : ∀ j, j < cs.length → okc (cs.getD j 0)) : ∀ c ∈ cs, okc c := by
  intro c hc
  obtain ⟨j, hj, rfl⟩ := List.mem_iff_getElem.mp hc
  have q := h j hj
  rw [List.getD_eq_getElem?_getD, List.getElem?_eq_getElem hj] at q
  exact q
theorem own_narC' {z : Int32} (h : ¬ z < 0 ∧ ¬ (65535 : Int32) < z) : nar .char z = z := own_narC h.1 h.2
theorem own_vno {cs : List Int32} {c : Int32} (hc : c ∈ cs) (h : ¬ okc c) : own_val cs = 0 := by rw [own_val, if_neg fun r => h (r.2.2 c hc)]
theorem own_vyes {cs : List Int32} (h1 : 0 < cs.length) (h2 : cs.length ≤ 127) (h : ∀ c ∈ cs, okc c) : own_val cs = 1 := by rw [own_val, if_pos ⟨h1, h2, h⟩]
def own_t127 : List Int32 := [(97 : Int32), (98 : Int32), (99 : Int32), (100 : Int32), (101 : Int32), (102 : Int32), (103 : Int32), (104 : Int32), (105 : Int32), (106 : Int32), (107 : Int32), (108 : Int32), (109 : Int32), (110 : Int32), (111 : Int32), (112 : Int32), (113 : Int32), (114 : Int32), (115 : Int32), (116 : Int32), (117 : Int32), (118 : Int32), (119 : Int32), (120 : Int32), (121 : Int32), (122 : Int32), (65 : Int32), (66 : Int32), (67 : Int32), (68 : Int32), (69 : Int32), (70 : Int32), (71 : Int32), (72 : Int32), (73 : Int32), (74 : Int32), (75 : Int32), (76 : Int32), (77 : Int32), (78 : Int32), (79 : Int32), (80 : Int32), (81 : Int32), (82 : Int32), (83 : Int32), (84 : Int32), (85 : Int32), (86 : Int32), (87 : Int32), (88 : Int32), (89 : Int32), (90 : Int32), (48 : Int32), (49 : Int32), (50 : Int32), (51 : Int32), (52 : Int32), (53 : Int32), (54 : Int32), (55 : Int32), (56 : Int32), (57 : Int32), (95 : Int32), (45 : Int32), (97 : Int32), (98 : Int32), (99 : Int32), (100 : Int32), (101 : Int32), (102 : Int32), (103 : Int32), (104 : Int32), (105 : Int32), (106 : Int32), (107 : Int32), (108 : Int32), (109 : Int32), (110 : Int32), (111 : Int32), (112 : Int32), (113 : Int32), (114 : Int32), (115 : Int32), (116 : Int32), (117 : Int32), (118 : Int32), (119 : Int32), (120 : Int32), (121 : Int32), (122 : Int32), (65 : Int32), (66 : Int32), (67 : Int32), (68 : Int32), (69 : Int32), (70 : Int32), (71 : Int32), (72 : Int32), (73 : Int32), (74 : Int32), (75 : Int32), (76 : Int32), (77 : Int32), (78 : Int32), (79 : Int32), (80 : Int32), (81 : Int32), (82 : Int32), (83 : Int32), (84 : Int32), (85 : Int32), (86 : Int32), (87 : Int32), (88 : Int32), (89 : Int32), (90 : Int32), (48 : Int32), (49 : Int32), (50 : Int32), (51 : Int32), (52 : Int32), (53 : Int32), (54 : Int32), (55 : Int32), (56 : Int32), (57 : Int32), (95 : Int32)]
theorem own_c127 : StrChars.Road.CodA own_t127 0 (127 : Int32) [(.int 97), (.int 98), (.int 99), (.int 100), (.int 101), (.int 102), (.int 103), (.int 104), (.int 105), (.int 106), (.int 107), (.int 108), (.int 109), (.int 110), (.int 111), (.int 112), (.int 113), (.int 114), (.int 115), (.int 116), (.int 117), (.int 118), (.int 119), (.int 120), (.int 121), (.int 122), (.int 65), (.int 66), (.int 67), (.int 68), (.int 69), (.int 70), (.int 71), (.int 72), (.int 73), (.int 74), (.int 75), (.int 76), (.int 77), (.int 78), (.int 79), (.int 80), (.int 81), (.int 82), (.int 83), (.int 84), (.int 85), (.int 86), (.int 87), (.int 88), (.int 89), (.int 90), (.int 48), (.int 49), (.int 50), (.int 51), (.int 52), (.int 53), (.int 54), (.int 55), (.int 56), (.int 57), (.int 95), (.int 45), (.int 97), (.int 98), (.int 99), (.int 100), (.int 101), (.int 102), (.int 103), (.int 104), (.int 105), (.int 106), (.int 107), (.int 108), (.int 109), (.int 110), (.int 111), (.int 112), (.int 113), (.int 114), (.int 115), (.int 116), (.int 117), (.int 118), (.int 119), (.int 120), (.int 121), (.int 122), (.int 65), (.int 66), (.int 67), (.int 68), (.int 69), (.int 70), (.int 71), (.int 72), (.int 73), (.int 74), (.int 75), (.int 76), (.int 77), (.int 78), (.int 79), (.int 80), (.int 81), (.int 82), (.int 83), (.int 84), (.int 85), (.int 86), (.int 87), (.int 88), (.int 89), (.int 90), (.int 48), (.int 49), (.int 50), (.int 51), (.int 52), (.int 53), (.int 54), (.int 55), (.int 56), (.int 57), (.int 95)] := Or.inl ⟨rfl, by decide +kernel, by decide +kernel, by decide +kernel⟩
theorem own_r127 : ∀ c ∈ own_t127, ¬ c < 0 ∧ ¬ (65535 : Int32) < c := by decide +kernel
theorem own_v127 : own_val own_t127 = 1 := by decide +kernel
def own_t128 : List Int32 := [(97 : Int32), (98 : Int32), (99 : Int32), (100 : Int32), (101 : Int32), (102 : Int32), (103 : Int32), (104 : Int32), (105 : Int32), (106 : Int32), (107 : Int32), (108 : Int32), (109 : Int32), (110 : Int32), (111 : Int32), (112 : Int32), (113 : Int32), (114 : Int32), (115 : Int32), (116 : Int32), (117 : Int32), (118 : Int32), (119 : Int32), (120 : Int32), (121 : Int32), (122 : Int32), (65 : Int32), (66 : Int32), (67 : Int32), (68 : Int32), (69 : Int32), (70 : Int32), (71 : Int32), (72 : Int32), (73 : Int32), (74 : Int32), (75 : Int32), (76 : Int32), (77 : Int32), (78 : Int32), (79 : Int32), (80 : Int32), (81 : Int32), (82 : Int32), (83 : Int32), (84 : Int32), (85 : Int32), (86 : Int32), (87 : Int32), (88 : Int32), (89 : Int32), (90 : Int32), (48 : Int32), (49 : Int32), (50 : Int32), (51 : Int32), (52 : Int32), (53 : Int32), (54 : Int32), (55 : Int32), (56 : Int32), (57 : Int32), (95 : Int32), (45 : Int32), (97 : Int32), (98 : Int32), (99 : Int32), (100 : Int32), (101 : Int32), (102 : Int32), (103 : Int32), (104 : Int32), (105 : Int32), (106 : Int32), (107 : Int32), (108 : Int32), (109 : Int32), (110 : Int32), (111 : Int32), (112 : Int32), (113 : Int32), (114 : Int32), (115 : Int32), (116 : Int32), (117 : Int32), (118 : Int32), (119 : Int32), (120 : Int32), (121 : Int32), (122 : Int32), (65 : Int32), (66 : Int32), (67 : Int32), (68 : Int32), (69 : Int32), (70 : Int32), (71 : Int32), (72 : Int32), (73 : Int32), (74 : Int32), (75 : Int32), (76 : Int32), (77 : Int32), (78 : Int32), (79 : Int32), (80 : Int32), (81 : Int32), (82 : Int32), (83 : Int32), (84 : Int32), (85 : Int32), (86 : Int32), (87 : Int32), (88 : Int32), (89 : Int32), (90 : Int32), (48 : Int32), (49 : Int32), (50 : Int32), (51 : Int32), (52 : Int32), (53 : Int32), (54 : Int32), (55 : Int32), (56 : Int32), (57 : Int32), (95 : Int32), (45 : Int32)]
theorem own_c128 : StrChars.Road.CodA own_t128 0 (128 : Int32) [(.int 97), (.int 98), (.int 99), (.int 100), (.int 101), (.int 102), (.int 103), (.int 104), (.int 105), (.int 106), (.int 107), (.int 108), (.int 109), (.int 110), (.int 111), (.int 112), (.int 113), (.int 114), (.int 115), (.int 116), (.int 117), (.int 118), (.int 119), (.int 120), (.int 121), (.int 122), (.int 65), (.int 66), (.int 67), (.int 68), (.int 69), (.int 70), (.int 71), (.int 72), (.int 73), (.int 74), (.int 75), (.int 76), (.int 77), (.int 78), (.int 79), (.int 80), (.int 81), (.int 82), (.int 83), (.int 84), (.int 85), (.int 86), (.int 87), (.int 88), (.int 89), (.int 90), (.int 48), (.int 49), (.int 50), (.int 51), (.int 52), (.int 53), (.int 54), (.int 55), (.int 56), (.int 57), (.int 95), (.int 45), (.int 97), (.int 98), (.int 99), (.int 100), (.int 101), (.int 102), (.int 103), (.int 104), (.int 105), (.int 106), (.int 107), (.int 108), (.int 109), (.int 110), (.int 111), (.int 112), (.int 113), (.int 114), (.int 115), (.int 116), (.int 117), (.int 118), (.int 119), (.int 120), (.int 121), (.int 122), (.int 65), (.int 66), (.int 67), (.int 68), (.int 69), (.int 70), (.int 71), (.int 72), (.int 73), (.int 74), (.int 75), (.int 76), (.int 77), (.int 78), (.int 79), (.int 80), (.int 81), (.int 82), (.int 83), (.int 84), (.int 85), (.int 86), (.int 87), (.int 88), (.int 89), (.int 90), (.int 48), (.int 49), (.int 50), (.int 51), (.int 52), (.int 53), (.int 54), (.int 55), (.int 56), (.int 57), (.int 95), (.int 45)] := Or.inl ⟨rfl, by decide +kernel, by decide +kernel, by decide +kernel⟩
theorem own_r128 : ∀ c ∈ own_t128, ¬ c < 0 ∧ ¬ (65535 : Int32) < c := by decide +kernel
theorem own_v128 : own_val own_t128 = 0 := by decide +kernel
theorem dul_0 : decode jdk_52_method_6_code 0 = .ok (.aload_n 0, 1) := by decide +kernel
theorem dul_1 : decode jdk_52_method_6_code 1 = .ok (.arraylength, 1) := by decide +kernel
theorem dul_2 : decode jdk_52_method_6_code 2 = .ok (.iconst 1, 1) := by decide +kernel
theorem dul_3 : decode jdk_52_method_6_code 3 = .ok (.ishr, 1) := by decide +kernel
theorem dul_4 : decode jdk_52_method_6_code 4 = .ok (.ireturn, 1) := by decide +kernel
theorem pn_0 : plainName "java/lang/StringUTF16" = true := by first | (simp [plainName, overriddenIn]; done) | decide +kernel
theorem eful (m : MethodId) (x0 : Addr) : entryFrame m #[(.ref x0)] 1 = mkF m 0 #[.val (.ref x0)] [] := by first | (simp [entryFrame, mkF, argsToLocals, Value.category]; done) | rfl
set_option maxRecDepth 65536 in
set_option maxHeartbeats 40000000 in
theorem rm_ul (l : Launch) (Z : State) (a0 : Array Value) (hw : ∀ d ∈ tables_1, d.before a0 Z = true) (ws : List Jvm.Cond) (b1 : Addr) (kb : ClassId) (n : Nat) (vs : List Value) (d : Value) (h0 : Heap) (n0 : Nat) (Z0 : n0 ≤ h0.size) (V1 : Arv Z h0 b1 kb .byte (Int32.ofNat (2 * n)) vs d) (hn : n ≤ 4000) :
    own_Met l Z ws (⟨"java/lang/StringUTF16", "length", "([B)I"⟩ : MethodName) jdk_52_method_6_code 1 (some .int) ({ frames := 0, cells := 0, slots := 0, locals := 0 } : Room) #[(.ref b1)] h0 (fun v h L => v = some (.int (Int32.ofNat n)) ∧ Fr n0 L ∧ h = h0) := by
  refine own_body (plainFor_of_name pn_0) ?_
  intro p e s m below meth c s₁ hx hby hml hret hlk hown hnm hZ X0 e0
  have hml : c.maxLocals = 1 := hml
  have hown : s.vm.findClass "java/lang/StringUTF16" = some m.cls := hown
  have N0 := Fr.nil n0
  refine own_cast (eful m b1) ?_
  show oG p e below _ s₁ (mkF m 0 #[.val (.ref b1)] [])
  refine oS (fun t k => XS.aloadN X0.here hx rfl (hb hby dul_0) rfl rfl k) ?_
  show oG p e below _ s₁ (mkF m 1 #[.val (.ref b1)] [(.ref b1)])
  obtain ⟨cl1, Ar1, -, S1, M1, -, -⟩ := id V1
  refine oS (X0.arraylength hx (by rw [e0]; exact Ar1.1) (State.isArrayOf_alike hZ.alike Ar1.2.1) (g := (mkF m 1 #[.val (.ref b1)] [(.ref b1)])) rfl rfl (hb hby dul_1)) ?_
  rw [len_of S1 M1]
  show oG p e below _ s₁ (mkF m 2 #[.val (.ref b1)] [(.int (Int32.ofNat (2 * n)))])
  refine oS (fun t k => XS.iconst X0.here hx rfl (hb hby dul_2) k) ?_
  refine oS (fun t k => XS.ishr X0.here hx rfl (hb hby dul_3) rfl k) ?_
  show oG p e below _ s₁ (mkF m 4 #[.val (.ref b1)] [(.int ((Int32.ofNat (2 * n)) >>> ((1 : Int32) &&& 31)))])
  rw [own_half hn]
  show oG p e below _ s₁ (mkF m 4 #[.val (.ref b1)] [(.int (Int32.ofNat n))])
  refine own_retI X0 hx hlk hret (hb hby dul_4) ?_ (by decide) (by decide)
  rw [e0]
  exact ⟨rfl, N0, rfl⟩
theorem dpc_0 : decode jdk_41_method_11_code 0 = .ok (.iload_n 0, 1) := by decide +kernel
theorem dpc_1 : decode jdk_41_method_11_code 1 = .ok (.ifCond .lt 8, 3) := by decide +kernel
theorem dpc_4 : decode jdk_41_method_11_code 4 = .ok (.iload_n 0, 1) := by decide +kernel
theorem dpc_5 : decode jdk_41_method_11_code 5 = .ok (.iload_n 1, 1) := by decide +kernel
theorem dpc_6 : decode jdk_41_method_11_code 6 = .ok (.if_icmp .lt 10, 3) := by decide +kernel
theorem dpc_9 : decode jdk_41_method_11_code 9 = .ok (.aload_n 2, 1) := by decide +kernel
theorem dpc_10 : decode jdk_41_method_11_code 10 = .ok (.iload_n 0, 1) := by decide +kernel
theorem dpc_11 : decode jdk_41_method_11_code 11 = .ok (.iload_n 1, 1) := by decide +kernel
theorem dpc_12 : decode jdk_41_method_11_code 12 = .ok (.invokestatic 95, 3) := by decide +kernel
theorem dpc_15 : decode jdk_41_method_11_code 15 = .ok (.athrow, 1) := by decide +kernel
theorem dpc_16 : decode jdk_41_method_11_code 16 = .ok (.iload_n 0, 1) := by decide +kernel
theorem dpc_17 : decode jdk_41_method_11_code 17 = .ok (.ireturn, 1) := by decide +kernel
theorem pn_1 : plainName "jdk/internal/util/Preconditions" = true := by first | (simp [plainName, overriddenIn]; done) | decide +kernel
theorem efpc (m : MethodId) (x0 : Int32) (x1 : Int32) (x2 : Value) (hx2 : x2.isRef = true) : entryFrame m #[(.int x0), (.int x1), x2] 3 = mkF m 0 #[.val (.int x0), .val (.int x1), .val x2] [] := by rcases ref_cases hx2 with rfl | ⟨_, rfl⟩ <;> first | (simp [entryFrame, mkF, argsToLocals, Value.category]; done) | rfl
set_option maxRecDepth 65536 in
set_option maxHeartbeats 40000000 in
theorem rm_pc (l : Launch) (Z : State) (a0 : Array Value) (hw : ∀ d ∈ tables_1, d.before a0 Z = true) (ws : List Jvm.Cond) (i : Nat) (n : Nat) (FM : Value) (h0 : Heap) (n0 : Nat) (Z0 : n0 ≤ h0.size) (rFM : FM.isRef = true) (hi : i < n) (hn : n ≤ 8000) :
    own_Met l Z ws (⟨"jdk/internal/util/Preconditions", "checkIndex", "(IILjava/util/function/BiFunction;)I"⟩ : MethodName) jdk_41_method_11_code 3 (some .int) ({ frames := 0, cells := 0, slots := 0, locals := 0 } : Room) #[(.int (Int32.ofNat i)), (.int (Int32.ofNat n)), FM] h0 (fun v h L => v = some (.int (Int32.ofNat i)) ∧ Fr n0 L ∧ h = h0) := by
  refine own_body (plainFor_of_name pn_1) ?_
  intro p e s m below meth c s₁ hx hby hml hret hlk hown hnm hZ X0 e0
  have hml : c.maxLocals = 3 := hml
  have hown : s.vm.findClass "jdk/internal/util/Preconditions" = some m.cls := hown
  have N0 := Fr.nil n0
  refine own_cast (efpc m (Int32.ofNat i) (Int32.ofNat n) FM rFM) ?_
  show oG p e below _ s₁ (mkF m 0 #[.val (.int (Int32.ofNat i)), .val (.int (Int32.ofNat n)), .val FM] [])
  refine oS (fun t k => XS.iloadN X0.here hx rfl (hb hby dpc_0) rfl  k) ?_
  show oG p e below _ s₁ (mkF m 1 #[.val (.int (Int32.ofNat i)), .val (.int (Int32.ofNat n)), .val FM] [(.int (Int32.ofNat i))])
  refine oS (fun t k => XS.ifNo X0.here hx rfl (hb hby dpc_1) rfl ((if0 _ _).trans (flt (own_nn (by omega))).1) k) ?_
  show oG p e below _ s₁ (mkF m 4 #[.val (.int (Int32.ofNat i)), .val (.int (Int32.ofNat n)), .val FM] [])
  refine oS (fun t k => XS.iloadN X0.here hx rfl (hb hby dpc_4) rfl  k) ?_
  refine oS (fun t k => XS.iloadN X0.here hx rfl (hb hby dpc_5) rfl  k) ?_
  show oG p e below _ s₁ (mkF m 6 #[.val (.int (Int32.ofNat i)), .val (.int (Int32.ofNat n)), .val FM] [(.int (Int32.ofNat n)), (.int (Int32.ofNat i))])
  refine oS (fun t k => XS.icmpYes X0.here hx rfl (pc0 := 6) (pc' := 16) rfl (hb hby dpc_6) rfl (tlt (own_lt8 hi hn)).1 (by decide) (by decide) k) ?_
  show oG p e below _ s₁ (mkF m 16 #[.val (.int (Int32.ofNat i)), .val (.int (Int32.ofNat n)), .val FM] [])
  refine oS (fun t k => XS.iloadN X0.here hx rfl (hb hby dpc_16) rfl  k) ?_
  show oG p e below _ s₁ (mkF m 17 #[.val (.int (Int32.ofNat i)), .val (.int (Int32.ofNat n)), .val FM] [(.int (Int32.ofNat i))])
  refine own_retI X0 hx hlk hret (hb hby dpc_17) ?_ (by decide) (by decide)
  rw [e0]
  exact ⟨rfl, N0, rfl⟩
theorem dsc_0 : decode jdk_42_method_155_code 0 = .ok (.iload_n 0, 1) := by decide +kernel
theorem dsc_1 : decode jdk_42_method_155_code 1 = .ok (.iload_n 1, 1) := by decide +kernel
theorem dsc_2 : decode jdk_42_method_155_code 2 = .ok (.getstatic 1053, 3) := by decide +kernel
theorem dsc_5 : decode jdk_42_method_155_code 5 = .ok (.invokestatic 1059, 3) := by decide +kernel
theorem dsc_8 : decode jdk_42_method_155_code 8 = .ok (.pop, 1) := by decide +kernel
theorem dsc_9 : decode jdk_42_method_155_code 9 = .ok (.return_, 1) := by decide +kernel
theorem pn_2 : plainName "java/lang/String" = true := by first | (simp [plainName, overriddenIn]; done) | decide +kernel
theorem efsc (m : MethodId) (x0 : Int32) (x1 : Int32) : entryFrame m #[(.int x0), (.int x1)] 2 = mkF m 0 #[.val (.int x0), .val (.int x1)] [] := by first | (simp [entryFrame, mkF, argsToLocals, Value.category]; done) | rfl
theorem pd_0 : parseMethodDescriptor "(IILjava/util/function/BiFunction;)I" = some ⟨[.int, .int, (.object "java/util/function/BiFunction")], some .int⟩ := by decide +kernel
set_option maxRecDepth 65536 in
set_option maxHeartbeats 40000000 in
theorem rm_sc (l : Launch) (Z : State) (a0 : Array Value) (hw : ∀ d ∈ tables_1, d.before a0 Z = true) (ws : List Jvm.Cond) (i : Nat) (n : Nat) (FM : Value) (h0 : Heap) (n0 : Nat) (Z0 : n0 ≤ h0.size) (SF : Sta Z h0 "jdk/internal/util/Preconditions" "SIOOBE_FORMATTER" "Ljava/util/function/BiFunction;" FM) (rFM : FM.isRef = true) (hi : i < n) (hn : n ≤ 8000) :
    own_Met l Z ws (⟨"java/lang/String", "checkIndex", "(II)V"⟩ : MethodName) jdk_42_method_155_code 2 none ({ frames := 1, cells := 0, slots := 0, locals := 20 } : Room) #[(.int (Int32.ofNat i)), (.int (Int32.ofNat n))] h0 (fun v h L => v = none ∧ Fr n0 L ∧ h = h0) := by
  refine own_body (plainFor_of_name pn_2) ?_
  intro p e s m below meth c s₁ hx hby hml hret hlk hown hnm hZ X0 e0
  have hml : c.maxLocals = 2 := hml
  have hown : s.vm.findClass "java/lang/String" = some m.cls := hown
  have N0 := Fr.nil n0
  refine own_cast (efsc m (Int32.ofNat i) (Int32.ofNat n)) ?_
  show oG p e below _ s₁ (mkF m 0 #[.val (.int (Int32.ofNat i)), .val (.int (Int32.ofNat n))] [])
  refine oS (fun t k => XS.iloadN X0.here hx rfl (hb hby dsc_0) rfl  k) ?_
  refine oS (fun t k => XS.iloadN X0.here hx rfl (hb hby dsc_1) rfl  k) ?_
  show oG p e below _ s₁ (mkF m 2 #[.val (.int (Int32.ofNat i)), .val (.int (Int32.ofNat n))] [(.int (Int32.ofNat n)), (.int (Int32.ofNat i))])
  obtain ⟨T2, X2, e2, st2⟩ := getS2 X0 hx hZ hown (host := "") (Or.inl (oW hw 73 rfl)) Via.refl e0 SF (g := (mkF m 2 #[.val (.int (Int32.ofNat i)), .val (.int (Int32.ofNat n))] [(.int (Int32.ofNat n)), (.int (Int32.ofNat i))])) rfl (hb hby dsc_2)
  refine oS st2 ?_
  show oG p e below _ T2 (mkF m 5 #[.val (.int (Int32.ofNat i)), .val (.int (Int32.ofNat n))] [FM, (.int (Int32.ofNat n)), (.int (Int32.ofNat i))])
  refine own_callS X2 hx hZ (y := (⟨"jdk/internal/util/Preconditions", "checkIndex", "(IILjava/util/function/BiFunction;)I"⟩ : MethodName)) (W := 0) (kc := 0) (ks := 0) hown (oW hw 75 rfl) (oW hw 76 rfl) (oW hw 74 rfl) (oW hw 77 rfl) (own_back (W := 0) (rm_pc l Z a0 hw [] i n FM h0 n0 Z0 rFM hi hn) hZ (oW hw 77 rfl) (oW hw 74 rfl) (by decide) (by decide)) (by decide) (g := (mkF m 5 #[.val (.int (Int32.ofNat i)), .val (.int (Int32.ofNat n))] [FM, (.int (Int32.ofNat n)), (.int (Int32.ofNat i))])) rfl (by rw [hml]; rfl) (argsL := [(.int (Int32.ofNat i)), (.int (Int32.ofNat n)), FM]) (rest := []) (lenOf pd_0 rfl) rfl (by show 2 * 0 + _ ≤ _; exact Nat.le_of_eq rfl) (hb hby dsc_5) rfl e2 (by decide) (by decide) (fun v5 T5 L5 X5 hQ5 => ?_)
  obtain ⟨rfl, M5, e5⟩ := hQ5
  show oG p e below _ T5 (mkF m 8 #[.val (.int (Int32.ofNat i)), .val (.int (Int32.ofNat n))] [(.int (Int32.ofNat i))])
  refine oS (fun t k => XS.pop X5.here hx rfl (hb hby dsc_8) rfl rfl k) ?_
  show oG p e below _ T5 (mkF m 9 #[.val (.int (Int32.ofNat i)), .val (.int (Int32.ofNat n))] [])
  refine own_retV X5 hx hlk hret (hb hby dsc_9) ?_ (by decide) (by decide)
  rw [e5]
  exact ⟨rfl, Fr.app N0 M5, rfl⟩
theorem duc_0 : decode jdk_52_method_91_code 0 = .ok (.iload_n 0, 1) := by decide +kernel
theorem duc_1 : decode jdk_52_method_91_code 1 = .ok (.aload_n 1, 1) := by decide +kernel
theorem duc_2 : decode jdk_52_method_91_code 2 = .ok (.invokestatic 48, 3) := by decide +kernel
theorem duc_5 : decode jdk_52_method_91_code 5 = .ok (.invokestatic 414, 3) := by decide +kernel
theorem duc_8 : decode jdk_52_method_91_code 8 = .ok (.return_, 1) := by decide +kernel
theorem efuc (m : MethodId) (x0 : Int32) (x1 : Addr) : entryFrame m #[(.int x0), (.ref x1)] 2 = mkF m 0 #[.val (.int x0), .val (.ref x1)] [] := by first | (simp [entryFrame, mkF, argsToLocals, Value.category]; done) | rfl
theorem pd_1 : parseMethodDescriptor "([B)I" = some ⟨[(.array .byte)], some .int⟩ := by decide +kernel
theorem pd_2 : parseMethodDescriptor "(II)V" = some ⟨[.int, .int], none⟩ := by decide +kernel
set_option maxRecDepth 65536 in
set_option maxHeartbeats 40000000 in
theorem rm_uc (l : Launch) (Z : State) (a0 : Array Value) (hw : ∀ d ∈ tables_1, d.before a0 Z = true) (ws : List Jvm.Cond) (i : Nat) (b1 : Addr) (kb : ClassId) (n : Nat) (vs : List Value) (d : Value) (FM : Value) (h0 : Heap) (n0 : Nat) (Z0 : n0 ≤ h0.size) (V1 : Arv Z h0 b1 kb .byte (Int32.ofNat (2 * n)) vs d) (hn : n ≤ 4000) (SF : Sta Z h0 "jdk/internal/util/Preconditions" "SIOOBE_FORMATTER" "Ljava/util/function/BiFunction;" FM) (rFM : FM.isRef = true) (hi : i < n) :
    own_Met l Z ws (⟨"java/lang/StringUTF16", "checkIndex", "(I[B)V"⟩ : MethodName) jdk_52_method_91_code 2 none ({ frames := 2, cells := 0, slots := 0, locals := 40 } : Room) #[(.int (Int32.ofNat i)), (.ref b1)] h0 (fun v h L => v = none ∧ Fr n0 L ∧ h = h0) := by
  refine own_body (plainFor_of_name pn_0) ?_
  intro p e s m below meth c s₁ hx hby hml hret hlk hown hnm hZ X0 e0
  have hml : c.maxLocals = 2 := hml
  have hown : s.vm.findClass "java/lang/StringUTF16" = some m.cls := hown
  have N0 := Fr.nil n0
  refine own_cast (efuc m (Int32.ofNat i) b1) ?_
  show oG p e below _ s₁ (mkF m 0 #[.val (.int (Int32.ofNat i)), .val (.ref b1)] [])
  refine oS (fun t k => XS.iloadN X0.here hx rfl (hb hby duc_0) rfl  k) ?_
  refine oS (fun t k => XS.aloadN X0.here hx rfl (hb hby duc_1) rfl rfl k) ?_
  show oG p e below _ s₁ (mkF m 2 #[.val (.int (Int32.ofNat i)), .val (.ref b1)] [(.ref b1), (.int (Int32.ofNat i))])
  refine own_callS X0 hx hZ (y := (⟨"java/lang/StringUTF16", "length", "([B)I"⟩ : MethodName)) (W := 1) (kc := 0) (ks := 0) hown (oW hw 105 rfl) (oW hw 106 rfl) (oW hw 34 rfl) (oW hw 107 rfl) (own_back (W := 1) (rm_ul l Z a0 hw [] b1 kb n vs d h0 n0 Z0 V1 hn) hZ (oW hw 107 rfl) (oW hw 34 rfl) (by decide) (by decide)) (by decide) (g := (mkF m 2 #[.val (.int (Int32.ofNat i)), .val (.ref b1)] [(.ref b1), (.int (Int32.ofNat i))])) rfl (by rw [hml]; rfl) (argsL := [(.ref b1)]) (rest := [(.int (Int32.ofNat i))]) (lenOf pd_1 rfl) rfl (by show 2 * 0 + _ ≤ _; exact Nat.le_of_eq rfl) (hb hby duc_2) rfl e0 (by decide) (by decide) (fun v2 T2 L2 X2 hQ2 => ?_)
  obtain ⟨rfl, M2, e2⟩ := hQ2
  show oG p e below _ T2 (mkF m 5 #[.val (.int (Int32.ofNat i)), .val (.ref b1)] [(.int (Int32.ofNat n)), (.int (Int32.ofNat i))])
  refine own_callS X2 hx hZ (y := (⟨"java/lang/String", "checkIndex", "(II)V"⟩ : MethodName)) (W := 0) (kc := 0) (ks := 0) hown (oW hw 108 rfl) (oW hw 71 rfl) (oW hw 2 rfl) (oW hw 72 rfl) (own_back (W := 0) (rm_sc l Z a0 hw [] i n FM h0 n0 Z0 SF rFM hi (by omega)) hZ (oW hw 72 rfl) (oW hw 2 rfl) (by decide) (by decide)) (by decide) (g := (mkF m 5 #[.val (.int (Int32.ofNat i)), .val (.ref b1)] [(.int (Int32.ofNat n)), (.int (Int32.ofNat i))])) rfl (by rw [hml]; rfl) (argsL := [(.int (Int32.ofNat i)), (.int (Int32.ofNat n))]) (rest := []) (lenOf pd_2 rfl) rfl (by show 2 * 0 + _ ≤ _; exact Nat.le_of_eq rfl) (hb hby duc_5) rfl e2 (by decide) (by decide) (fun v5 T5 L5 X5 hQ5 => ?_)
  obtain ⟨rfl, M5, e5⟩ := hQ5
  show oG p e below _ T5 (mkF m 8 #[.val (.int (Int32.ofNat i)), .val (.ref b1)] [])
  refine own_retV X5 hx hlk hret (hb hby duc_8) ?_ (by decide) (by decide)
  rw [e5]
  exact ⟨rfl, Fr.app (Fr.app N0 M2) M5, rfl⟩
theorem dgc_0 : decode jdk_52_method_5_code 0 = .ok (.getstatic 44, 3) := by decide +kernel
theorem dgc_3 : decode jdk_52_method_5_code 3 = .ok (.ifCond .ne 25, 3) := by decide +kernel
theorem dgc_6 : decode jdk_52_method_5_code 6 = .ok (.iload_n 1, 1) := by decide +kernel
theorem dgc_7 : decode jdk_52_method_5_code 7 = .ok (.ifCond .lt 11, 3) := by decide +kernel
theorem dgc_10 : decode jdk_52_method_5_code 10 = .ok (.iload_n 1, 1) := by decide +kernel
theorem dgc_11 : decode jdk_52_method_5_code 11 = .ok (.aload_n 0, 1) := by decide +kernel
theorem dgc_12 : decode jdk_52_method_5_code 12 = .ok (.invokestatic 48, 3) := by decide +kernel
theorem dgc_15 : decode jdk_52_method_5_code 15 = .ok (.if_icmp .lt 13, 3) := by decide +kernel
theorem dgc_18 : decode jdk_52_method_5_code 18 = .ok (.new 52, 3) := by decide +kernel
theorem dgc_21 : decode jdk_52_method_5_code 21 = .ok (.dup, 1) := by decide +kernel
theorem dgc_22 : decode jdk_52_method_5_code 22 = .ok (.ldc 54, 2) := by decide +kernel
theorem dgc_24 : decode jdk_52_method_5_code 24 = .ok (.invokespecial 56, 3) := by decide +kernel
theorem dgc_27 : decode jdk_52_method_5_code 27 = .ok (.athrow, 1) := by decide +kernel
theorem dgc_28 : decode jdk_52_method_5_code 28 = .ok (.iload_n 1, 1) := by decide +kernel
theorem dgc_29 : decode jdk_52_method_5_code 29 = .ok (.iconst 1, 1) := by decide +kernel
theorem dgc_30 : decode jdk_52_method_5_code 30 = .ok (.ishl, 1) := by decide +kernel
theorem dgc_31 : decode jdk_52_method_5_code 31 = .ok (.istore_n 1, 1) := by decide +kernel
theorem dgc_32 : decode jdk_52_method_5_code 32 = .ok (.aload_n 0, 1) := by decide +kernel
theorem dgc_33 : decode jdk_52_method_5_code 33 = .ok (.iload_n 1, 1) := by decide +kernel
theorem dgc_34 : decode jdk_52_method_5_code 34 = .ok (.iinc 1 1, 3) := by decide +kernel
theorem dgc_37 : decode jdk_52_method_5_code 37 = .ok (.baload, 1) := by decide +kernel
theorem dgc_38 : decode jdk_52_method_5_code 38 = .ok (.sipush 255, 3) := by decide +kernel
theorem dgc_41 : decode jdk_52_method_5_code 41 = .ok (.iand, 1) := by decide +kernel
theorem dgc_42 : decode jdk_52_method_5_code 42 = .ok (.getstatic 59, 3) := by decide +kernel
theorem dgc_45 : decode jdk_52_method_5_code 45 = .ok (.ishl, 1) := by decide +kernel
theorem dgc_46 : decode jdk_52_method_5_code 46 = .ok (.aload_n 0, 1) := by decide +kernel
theorem dgc_47 : decode jdk_52_method_5_code 47 = .ok (.iload_n 1, 1) := by decide +kernel
theorem dgc_48 : decode jdk_52_method_5_code 48 = .ok (.baload, 1) := by decide +kernel
theorem dgc_49 : decode jdk_52_method_5_code 49 = .ok (.sipush 255, 3) := by decide +kernel
theorem dgc_52 : decode jdk_52_method_5_code 52 = .ok (.iand, 1) := by decide +kernel
theorem dgc_53 : decode jdk_52_method_5_code 53 = .ok (.getstatic 63, 3) := by decide +kernel
theorem dgc_56 : decode jdk_52_method_5_code 56 = .ok (.ishl, 1) := by decide +kernel
theorem dgc_57 : decode jdk_52_method_5_code 57 = .ok (.ior, 1) := by decide +kernel
theorem dgc_58 : decode jdk_52_method_5_code 58 = .ok (.i2c, 1) := by decide +kernel
theorem dgc_59 : decode jdk_52_method_5_code 59 = .ok (.ireturn, 1) := by decide +kernel
theorem efgc (m : MethodId) (x0 : Addr) (x1 : Int32) : entryFrame m #[(.ref x0), (.int x1)] 2 = mkF m 0 #[.val (.ref x0), .val (.int x1)] [] := by first | (simp [entryFrame, mkF, argsToLocals, Value.category]; done) | rfl
set_option maxRecDepth 65536 in
set_option maxHeartbeats 40000000 in
theorem rm_gc (l : Launch) (Z : State) (a0 : Array Value) (hw : ∀ d ∈ tables_1, d.before a0 Z = true) (ws : List Jvm.Cond) (b1 : Addr) (i : Nat) (kb : ClassId) (cs : List Int32) (h0 : Heap) (n0 : Nat) (Z0 : n0 ≤ h0.size) (V1 : Arv Z h0 b1 kb .byte (Int32.ofNat (2 * cs.length)) (StrChars.Road.wideBytes cs) (.int 0)) (hn : cs.length ≤ 4000) (hr : ∀ c ∈ cs, ¬ c < 0 ∧ ¬ (65535 : Int32) < c) (hi : i < cs.length) (SA : Sta Z h0 "java/lang/StringUTF16" "$assertionsDisabled" "Z" (.int 1)) (SH : Sta Z h0 "java/lang/StringUTF16" "HI_BYTE_SHIFT" "I" (.int 0)) (SL : Sta Z h0 "java/lang/StringUTF16" "LO_BYTE_SHIFT" "I" (.int 8)) :
    own_Met l Z ws (⟨"java/lang/StringUTF16", "getChar", "([BI)C"⟩ : MethodName) jdk_52_method_5_code 2 (some .char) ({ frames := 0, cells := 0, slots := 0, locals := 0 } : Room) #[(.ref b1), (.int (Int32.ofNat i))] h0 (fun v h L => v = some (.int (cs.getD i 0)) ∧ Fr n0 L ∧ h = h0) := by
  refine own_body (plainFor_of_name pn_0) ?_
  intro p e s m below meth c s₁ hx hby hml hret hlk hown hnm hZ X0 e0
  have hml : c.maxLocals = 2 := hml
  have hown : s.vm.findClass "java/lang/StringUTF16" = some m.cls := hown
  have N0 := Fr.nil n0
  have hci : ¬ cs.getD i 0 < 0 ∧ ¬ (65535 : Int32) < cs.getD i 0 := by
    rw [List.getD_eq_getElem?_getD, List.getElem?_eq_getElem hi]
    exact hr _ (List.getElem_mem hi)
  refine own_cast (efgc m b1 (Int32.ofNat i)) ?_
  show oG p e below _ s₁ (mkF m 0 #[.val (.ref b1), .val (.int (Int32.ofNat i))] [])
  obtain ⟨T0, X0, e0, st0⟩ := getS2 X0 hx hZ hown (host := "") (Or.inl (oW hw 93 rfl)) Via.refl e0 SA (g := (mkF m 0 #[.val (.ref b1), .val (.int (Int32.ofNat i))] [])) rfl (hb hby dgc_0)
  refine oS st0 ?_
  show oG p e below _ T0 (mkF m 3 #[.val (.ref b1), .val (.int (Int32.ofNat i))] [(.int 1)])
  refine oS (fun t k => XS.ifYes X0.here hx rfl (pc0 := 3) (pc' := 28) rfl (hb hby dgc_3) rfl ((if0 _ _).trans (feq (by decide : ¬ (1 : Int32) = 0)).2) (by decide) (by decide) k) ?_
  show oG p e below _ T0 (mkF m 28 #[.val (.ref b1), .val (.int (Int32.ofNat i))] [])
  refine oS (fun t k => XS.iloadN X0.here hx rfl (hb hby dgc_28) rfl  k) ?_
  refine oS (fun t k => XS.iconst X0.here hx rfl (hb hby dgc_29) k) ?_
  refine oS (fun t k => XS.ishl X0.here hx rfl (hb hby dgc_30) rfl k) ?_
  show oG p e below _ T0 (mkF m 31 #[.val (.ref b1), .val (.int (Int32.ofNat i))] [(.int ((Int32.ofNat i) <<< ((1 : Int32) &&& 31)))])
  rw [own_dbl (by omega : i ≤ 4000)]
  show oG p e below _ T0 (mkF m 31 #[.val (.ref b1), .val (.int (Int32.ofNat i))] [(.int (Int32.ofNat (2 * i)))])
  refine oS (fun t k => XS.istoreN X0.here hx rfl (hb hby dgc_31) rfl (l' := #[.val (.ref b1), .val (.int (Int32.ofNat (2 * i)))]) rfl k) ?_
  show oG p e below _ T0 (mkF m 32 #[.val (.ref b1), .val (.int (Int32.ofNat (2 * i)))] [])
  refine oS (fun t k => XS.aloadN X0.here hx rfl (hb hby dgc_32) rfl rfl k) ?_
  refine oS (fun t k => XS.iloadN X0.here hx rfl (hb hby dgc_33) rfl  k) ?_
  show oG p e below _ T0 (mkF m 34 #[.val (.ref b1), .val (.int (Int32.ofNat (2 * i)))] [(.int (Int32.ofNat (2 * i))), (.ref b1)])
  refine oS (fun t k => XS.iinc X0.here hx rfl (hb hby dgc_34) rfl (l' := #[.val (.ref b1), .val (.int ((Int32.ofNat (2 * i)) + (1 : Int32)))]) rfl k) ?_
  show oG p e below _ T0 (mkF m 37 #[.val (.ref b1), .val (.int ((Int32.ofNat (2 * i)) + (1 : Int32)))] [(.int (Int32.ofNat (2 * i))), (.ref b1)])
  rw [own_one]
  show oG p e below _ T0 (mkF m 37 #[.val (.ref b1), .val (.int (Int32.ofNat (2 * i + 1)))] [(.int (Int32.ofNat (2 * i))), (.ref b1)])
  obtain ⟨cl37, Ar37, -, S37, M37, H37, G37⟩ := id V1
  have hin37 : ¬ ((Int32.ofNat (2 * i)) < 0 ∨ cl37.slots.size ≤ ((Int32.ofNat (2 * i))).toNatClampNeg) := inb_of S37 ⟨own_nn (by omega), own_lt8 (by omega) (by omega)⟩
  refine oS (X0.baloadBytes hx (j := (Int32.ofNat (2 * i))) (v := (.int (StrChars.lo8 (cs.getD i 0)))) (by rw [e0]; exact Ar37.1) (State.isArrayOf_alike hZ.alike Ar37.2.1) Ar37.2.2 hin37 (Has.at H37 hin37 (by rw [own_clamp (by omega)]; exact StrChars.Road.wide_lo _ cs i hi)) (g := (mkF m 37 #[.val (.ref b1), .val (.int (Int32.ofNat (2 * i + 1)))] [(.int (Int32.ofNat (2 * i))), (.ref b1)])) rfl rfl (hb hby dgc_37)) ?_
  show oG p e below _ T0 (mkF m 38 #[.val (.ref b1), .val (.int (Int32.ofNat (2 * i + 1)))] [(.int (StrChars.lo8 (cs.getD i 0)))])
  refine oS (fun t k => XS.sipush X0.here hx rfl (hb hby dgc_38) k) ?_
  refine oS (fun t k => XS.iand X0.here hx rfl (hb hby dgc_41) rfl k) ?_
  show oG p e below _ T0 (mkF m 42 #[.val (.ref b1), .val (.int (Int32.ofNat (2 * i + 1)))] [(.int ((StrChars.lo8 (cs.getD i 0)) &&& (255 : Int32)))])
  obtain ⟨T42, X42, e42, st42⟩ := getS2 X0 hx hZ hown (host := "") (Or.inl (oW hw 94 rfl)) Via.refl e0 SH (g := (mkF m 42 #[.val (.ref b1), .val (.int (Int32.ofNat (2 * i + 1)))] [(.int ((StrChars.lo8 (cs.getD i 0)) &&& (255 : Int32)))])) rfl (hb hby dgc_42)
  refine oS st42 ?_
  show oG p e below _ T42 (mkF m 45 #[.val (.ref b1), .val (.int (Int32.ofNat (2 * i + 1)))] [(.int 0), (.int ((StrChars.lo8 (cs.getD i 0)) &&& (255 : Int32)))])
  refine oS (fun t k => XS.ishl X42.here hx rfl (hb hby dgc_45) rfl k) ?_
  show oG p e below _ T42 (mkF m 46 #[.val (.ref b1), .val (.int (Int32.ofNat (2 * i + 1)))] [(.int (((StrChars.lo8 (cs.getD i 0)) &&& (255 : Int32)) <<< ((0 : Int32) &&& 31)))])
  refine oS (fun t k => XS.aloadN X42.here hx rfl (hb hby dgc_46) rfl rfl k) ?_
  refine oS (fun t k => XS.iloadN X42.here hx rfl (hb hby dgc_47) rfl  k) ?_
  show oG p e below _ T42 (mkF m 48 #[.val (.ref b1), .val (.int (Int32.ofNat (2 * i + 1)))] [(.int (Int32.ofNat (2 * i + 1))), (.ref b1), (.int (((StrChars.lo8 (cs.getD i 0)) &&& (255 : Int32)) <<< ((0 : Int32) &&& 31)))])
  obtain ⟨cl48, Ar48, -, S48, M48, H48, G48⟩ := id V1
  have hin48 : ¬ ((Int32.ofNat (2 * i + 1)) < 0 ∨ cl48.slots.size ≤ ((Int32.ofNat (2 * i + 1))).toNatClampNeg) := inb_of S48 ⟨own_nn (by omega), own_lt8 (by omega) (by omega)⟩
  refine oS (X42.baloadBytes hx (j := (Int32.ofNat (2 * i + 1))) (v := (.int (StrChars.hi8 (cs.getD i 0)))) (by rw [e42]; exact Ar48.1) (State.isArrayOf_alike hZ.alike Ar48.2.1) Ar48.2.2 hin48 (Has.at H48 hin48 (by rw [own_clamp (by omega)]; exact StrChars.Road.wide_hi _ cs i hi)) (g := (mkF m 48 #[.val (.ref b1), .val (.int (Int32.ofNat (2 * i + 1)))] [(.int (Int32.ofNat (2 * i + 1))), (.ref b1), (.int (((StrChars.lo8 (cs.getD i 0)) &&& (255 : Int32)) <<< ((0 : Int32) &&& 31)))])) rfl rfl (hb hby dgc_48)) ?_
  show oG p e below _ T42 (mkF m 49 #[.val (.ref b1), .val (.int (Int32.ofNat (2 * i + 1)))] [(.int (StrChars.hi8 (cs.getD i 0))), (.int (((StrChars.lo8 (cs.getD i 0)) &&& (255 : Int32)) <<< ((0 : Int32) &&& 31)))])
  refine oS (fun t k => XS.sipush X42.here hx rfl (hb hby dgc_49) k) ?_
  refine oS (fun t k => XS.iand X42.here hx rfl (hb hby dgc_52) rfl k) ?_
  show oG p e below _ T42 (mkF m 53 #[.val (.ref b1), .val (.int (Int32.ofNat (2 * i + 1)))] [(.int ((StrChars.hi8 (cs.getD i 0)) &&& (255 : Int32))), (.int (((StrChars.lo8 (cs.getD i 0)) &&& (255 : Int32)) <<< ((0 : Int32) &&& 31)))])
  obtain ⟨T53, X53, e53, st53⟩ := getS2 X42 hx hZ hown (host := "") (Or.inl (oW hw 95 rfl)) Via.refl e42 SL (g := (mkF m 53 #[.val (.ref b1), .val (.int (Int32.ofNat (2 * i + 1)))] [(.int ((StrChars.hi8 (cs.getD i 0)) &&& (255 : Int32))), (.int (((StrChars.lo8 (cs.getD i 0)) &&& (255 : Int32)) <<< ((0 : Int32) &&& 31)))])) rfl (hb hby dgc_53)
  refine oS st53 ?_
  show oG p e below _ T53 (mkF m 56 #[.val (.ref b1), .val (.int (Int32.ofNat (2 * i + 1)))] [(.int 8), (.int ((StrChars.hi8 (cs.getD i 0)) &&& (255 : Int32))), (.int (((StrChars.lo8 (cs.getD i 0)) &&& (255 : Int32)) <<< ((0 : Int32) &&& 31)))])
  refine oS (fun t k => XS.ishl X53.here hx rfl (hb hby dgc_56) rfl k) ?_
  show oG p e below _ T53 (mkF m 57 #[.val (.ref b1), .val (.int (Int32.ofNat (2 * i + 1)))] [(.int (((StrChars.hi8 (cs.getD i 0)) &&& (255 : Int32)) <<< ((8 : Int32) &&& 31))), (.int (((StrChars.lo8 (cs.getD i 0)) &&& (255 : Int32)) <<< ((0 : Int32) &&& 31)))])
  refine oS (fun t k => XS.ior X53.here hx rfl (hb hby dgc_57) rfl k) ?_
  show oG p e below _ T53 (mkF m 58 #[.val (.ref b1), .val (.int (Int32.ofNat (2 * i + 1)))] [(.int ((((StrChars.lo8 (cs.getD i 0)) &&& (255 : Int32)) <<< ((0 : Int32) &&& 31)) ||| (((StrChars.hi8 (cs.getD i 0)) &&& (255 : Int32)) <<< ((8 : Int32) &&& 31))))])
  refine oS (fun t k => XS.i2c X53.here hx rfl (hb hby dgc_58) rfl k) ?_
  show oG p e below _ T53 (mkF m 59 #[.val (.ref b1), .val (.int (Int32.ofNat (2 * i + 1)))] [(.int (((((StrChars.lo8 (cs.getD i 0)) &&& (255 : Int32)) <<< ((0 : Int32) &&& 31)) ||| (((StrChars.hi8 (cs.getD i 0)) &&& (255 : Int32)) <<< ((8 : Int32) &&& 31))).toUInt32.toUInt16.toUInt32.toInt32))])
  rw [show (((((StrChars.lo8 (cs.getD i 0)) &&& (255 : Int32)) <<< ((0 : Int32) &&& 31)) ||| (((StrChars.hi8 (cs.getD i 0)) &&& (255 : Int32)) <<< ((8 : Int32) &&& 31))).toUInt32.toUInt16.toUInt32.toInt32) = cs.getD i 0 from StrChars.pair_says hci.1 hci.2]
  show oG p e below _ T53 (mkF m 59 #[.val (.ref b1), .val (.int (Int32.ofNat (2 * i + 1)))] [(.int (cs.getD i 0))])
  refine own_retN (t := .char) X53 hx hlk hret (by simp) (hb hby dgc_59) ?_ (by decide) (by decide)
  rw [e53]
  exact ⟨by rw [own_narC hci.1 hci.2], N0, rfl⟩
theorem dua_0 : decode jdk_52_method_83_code 0 = .ok (.iload_n 1, 1) := by decide +kernel
theorem dua_1 : decode jdk_52_method_83_code 1 = .ok (.aload_n 0, 1) := by decide +kernel
theorem dua_2 : decode jdk_52_method_83_code 2 = .ok (.invokestatic 67, 3) := by decide +kernel
theorem dua_5 : decode jdk_52_method_83_code 5 = .ok (.aload_n 0, 1) := by decide +kernel
theorem dua_6 : decode jdk_52_method_83_code 6 = .ok (.iload_n 1, 1) := by decide +kernel
theorem dua_7 : decode jdk_52_method_83_code 7 = .ok (.invokestatic 71, 3) := by decide +kernel
theorem dua_10 : decode jdk_52_method_83_code 10 = .ok (.ireturn, 1) := by decide +kernel
theorem efua (m : MethodId) (x0 : Addr) (x1 : Int32) : entryFrame m #[(.ref x0), (.int x1)] 2 = mkF m 0 #[.val (.ref x0), .val (.int x1)] [] := by first | (simp [entryFrame, mkF, argsToLocals, Value.category]; done) | rfl
theorem pd_3 : parseMethodDescriptor "(I[B)V" = some ⟨[.int, (.array .byte)], none⟩ := by decide +kernel
theorem pd_4 : parseMethodDescriptor "([BI)C" = some ⟨[(.array .byte), .int], some .char⟩ := by decide +kernel
set_option maxRecDepth 65536 in
set_option maxHeartbeats 40000000 in
theorem rm_ua (l : Launch) (Z : State) (a0 : Array Value) (hw : ∀ d ∈ tables_1, d.before a0 Z = true) (ws : List Jvm.Cond) (b1 : Addr) (i : Nat) (kb : ClassId) (cs : List Int32) (FM : Value) (h0 : Heap) (n0 : Nat) (Z0 : n0 ≤ h0.size) (V1 : Arv Z h0 b1 kb .byte (Int32.ofNat (2 * cs.length)) (StrChars.Road.wideBytes cs) (.int 0)) (hn : cs.length ≤ 4000) (hr : ∀ c ∈ cs, ¬ c < 0 ∧ ¬ (65535 : Int32) < c) (hi : i < cs.length) (SA : Sta Z h0 "java/lang/StringUTF16" "$assertionsDisabled" "Z" (.int 1)) (SH : Sta Z h0 "java/lang/StringUTF16" "HI_BYTE_SHIFT" "I" (.int 0)) (SL : Sta Z h0 "java/lang/StringUTF16" "LO_BYTE_SHIFT" "I" (.int 8)) (SF : Sta Z h0 "jdk/internal/util/Preconditions" "SIOOBE_FORMATTER" "Ljava/util/function/BiFunction;" FM) (rFM : FM.isRef = true) :
    own_Met l Z ws (⟨"java/lang/StringUTF16", "charAt", "([BI)C"⟩ : MethodName) jdk_52_method_83_code 2 (some .char) ({ frames := 3, cells := 0, slots := 0, locals := 60 } : Room) #[(.ref b1), (.int (Int32.ofNat i))] h0 (fun v h L => v = some (.int (cs.getD i 0)) ∧ Fr n0 L ∧ h = h0) := by
  refine own_body (plainFor_of_name pn_0) ?_
  intro p e s m below meth c s₁ hx hby hml hret hlk hown hnm hZ X0 e0
  have hml : c.maxLocals = 2 := hml
  have hown : s.vm.findClass "java/lang/StringUTF16" = some m.cls := hown
  have N0 := Fr.nil n0
  have hci : ¬ cs.getD i 0 < 0 ∧ ¬ (65535 : Int32) < cs.getD i 0 := by
    rw [List.getD_eq_getElem?_getD, List.getElem?_eq_getElem hi]
    exact hr _ (List.getElem_mem hi)
  refine own_cast (efua m b1 (Int32.ofNat i)) ?_
  show oG p e below _ s₁ (mkF m 0 #[.val (.ref b1), .val (.int (Int32.ofNat i))] [])
  refine oS (fun t k => XS.iloadN X0.here hx rfl (hb hby dua_0) rfl  k) ?_
  refine oS (fun t k => XS.aloadN X0.here hx rfl (hb hby dua_1) rfl rfl k) ?_
  show oG p e below _ s₁ (mkF m 2 #[.val (.ref b1), .val (.int (Int32.ofNat i))] [(.ref b1), (.int (Int32.ofNat i))])
  refine own_callS X0 hx hZ (y := (⟨"java/lang/StringUTF16", "checkIndex", "(I[B)V"⟩ : MethodName)) (W := 0) (kc := 0) (ks := 0) hown (oW hw 102 rfl) (oW hw 103 rfl) (oW hw 34 rfl) (oW hw 104 rfl) (own_back (W := 0) (rm_uc l Z a0 hw [] i b1 kb cs.length _ _ FM h0 n0 Z0 V1 hn SF rFM hi) hZ (oW hw 104 rfl) (oW hw 34 rfl) (by decide) (by decide)) (by decide) (g := (mkF m 2 #[.val (.ref b1), .val (.int (Int32.ofNat i))] [(.ref b1), (.int (Int32.ofNat i))])) rfl (by rw [hml]; rfl) (argsL := [(.int (Int32.ofNat i)), (.ref b1)]) (rest := []) (lenOf pd_3 rfl) rfl (by show 2 * 0 + _ ≤ _; exact Nat.le_of_eq rfl) (hb hby dua_2) rfl e0 (by decide) (by decide) (fun v2 T2 L2 X2 hQ2 => ?_)
  obtain ⟨rfl, M2, e2⟩ := hQ2
  show oG p e below _ T2 (mkF m 5 #[.val (.ref b1), .val (.int (Int32.ofNat i))] [])
  refine oS (fun t k => XS.aloadN X2.here hx rfl (hb hby dua_5) rfl rfl k) ?_
  refine oS (fun t k => XS.iloadN X2.here hx rfl (hb hby dua_6) rfl  k) ?_
  show oG p e below _ T2 (mkF m 7 #[.val (.ref b1), .val (.int (Int32.ofNat i))] [(.int (Int32.ofNat i)), (.ref b1)])
  refine own_callS X2 hx hZ (y := (⟨"java/lang/StringUTF16", "getChar", "([BI)C"⟩ : MethodName)) (W := 0) (kc := 0) (ks := 0) hown (oW hw 96 rfl) (oW hw 97 rfl) (oW hw 34 rfl) (oW hw 98 rfl) (own_back (W := 0) (rm_gc l Z a0 hw [] b1 i kb cs h0 n0 Z0 V1 hn hr hi SA SH SL) hZ (oW hw 98 rfl) (oW hw 34 rfl) (by decide) (by decide)) (by decide) (g := (mkF m 7 #[.val (.ref b1), .val (.int (Int32.ofNat i))] [(.int (Int32.ofNat i)), (.ref b1)])) rfl (by rw [hml]; rfl) (argsL := [(.ref b1), (.int (Int32.ofNat i))]) (rest := []) (lenOf pd_4 rfl) rfl (by show 2 * 0 + _ ≤ _; exact Nat.le_of_eq rfl) (hb hby dua_7) rfl e2 (by decide) (by decide) (fun v7 T7 L7 X7 hQ7 => ?_)
  obtain ⟨rfl, M7, e7⟩ := hQ7
  show oG p e below _ T7 (mkF m 10 #[.val (.ref b1), .val (.int (Int32.ofNat i))] [(.int (cs.getD i 0))])
  refine own_retN (t := .char) X7 hx hlk hret (by simp) (hb hby dua_10) ?_ (by decide) (by decide)
  rw [e7]
  exact ⟨by rw [own_narC hci.1 hci.2], Fr.app (Fr.app N0 M2) M7, rfl⟩
theorem dil_0 : decode jdk_42_method_154_code 0 = .ok (.getstatic 38, 3) := by decide +kernel
theorem dil_3 : decode jdk_42_method_154_code 3 = .ok (.ifCond .eq 14, 3) := by decide +kernel
theorem dil_6 : decode jdk_42_method_154_code 6 = .ok (.aload_n 0, 1) := by decide +kernel
theorem dil_7 : decode jdk_42_method_154_code 7 = .ok (.getfield 15, 3) := by decide +kernel
theorem dil_10 : decode jdk_42_method_154_code 10 = .ok (.ifCond .ne 7, 3) := by decide +kernel
theorem dil_13 : decode jdk_42_method_154_code 13 = .ok (.iconst 1, 1) := by decide +kernel
theorem dil_14 : decode jdk_42_method_154_code 14 = .ok (.goto 4, 3) := by decide +kernel
theorem dil_17 : decode jdk_42_method_154_code 17 = .ok (.iconst 0, 1) := by decide +kernel
theorem dil_18 : decode jdk_42_method_154_code 18 = .ok (.ireturn, 1) := by decide +kernel
theorem efil (m : MethodId) (x0 : Addr) : entryFrame m #[(.ref x0)] 1 = mkF m 0 #[.val (.ref x0)] [] := by first | (simp [entryFrame, mkF, argsToLocals, Value.category]; done) | rfl
set_option maxRecDepth 65536 in
set_option maxHeartbeats 40000000 in
theorem rm_il (l : Launch) (Z : State) (a0 : Array Value) (hw : ∀ d ∈ tables_1, d.before a0 Z = true) (ws : List Jvm.Cond) (x1 : Addr) (CS : Int32) (h0 : Heap) (n0 : Nat) (Z0 : n0 ≤ h0.size) (C1 : Fld Z h0 x1 "java/lang/String" "coder" "B" (.int 1)) (SC : Sta Z h0 "java/lang/String" "COMPACT_STRINGS" "Z" (.int CS)) (hCS : ¬ CS = 0) :
    own_Met l Z ws (⟨"java/lang/String", "isLatin1", "()Z"⟩ : MethodName) jdk_42_method_154_code 1 (some .boolean) ({ frames := 0, cells := 0, slots := 0, locals := 0 } : Room) #[(.ref x1)] h0 (fun v h L => v = some (.int 0) ∧ Fr n0 L ∧ h = h0) := by
  refine own_body (plainFor_of_name pn_2) ?_
  intro p e s m below meth c s₁ hx hby hml hret hlk hown hnm hZ X0 e0
  have hml : c.maxLocals = 1 := hml
  have hown : s.vm.findClass "java/lang/String" = some m.cls := hown
  have N0 := Fr.nil n0
  refine own_cast (efil m x1) ?_
  show oG p e below _ s₁ (mkF m 0 #[.val (.ref x1)] [])
  obtain ⟨T0, X0, e0, st0⟩ := getS2 X0 hx hZ hown (host := "") (Or.inl (oW hw 31 rfl)) Via.refl e0 SC (g := (mkF m 0 #[.val (.ref x1)] [])) rfl (hb hby dil_0)
  refine oS st0 ?_
  show oG p e below _ T0 (mkF m 3 #[.val (.ref x1)] [(.int CS)])
  refine oS (fun t k => XS.ifNo X0.here hx rfl (hb hby dil_3) rfl ((if0 _ _).trans (feq hCS).1) k) ?_
  show oG p e below _ T0 (mkF m 6 #[.val (.ref x1)] [])
  refine oS (fun t k => XS.aloadN X0.here hx rfl (hb hby dil_6) rfl rfl k) ?_
  show oG p e below _ T0 (mkF m 7 #[.val (.ref x1)] [(.ref x1)])
  obtain ⟨T7, X7, e7, st7⟩ := getF X0 hx hZ hown (host := "") (Or.inl (oW hw 21 rfl)) Via.refl e0 C1 (g := (mkF m 7 #[.val (.ref x1)] [(.ref x1)])) rfl rfl (hb hby dil_7)
  refine oS st7 ?_
  show oG p e below _ T7 (mkF m 10 #[.val (.ref x1)] [(.int 1)])
  refine oS (fun t k => XS.ifYes X7.here hx rfl (pc0 := 10) (pc' := 17) rfl (hb hby dil_10) rfl ((if0 _ _).trans (feq (by decide : ¬ (1 : Int32) = 0)).2) (by decide) (by decide) k) ?_
  show oG p e below _ T7 (mkF m 17 #[.val (.ref x1)] [])
  refine oS (fun t k => XS.iconst X7.here hx rfl (hb hby dil_17) k) ?_
  show oG p e below _ T7 (mkF m 18 #[.val (.ref x1)] [(.int 0)])
  refine own_retN (t := .boolean) X7 hx hlk hret (by simp) (hb hby dil_18) ?_ (by decide) (by decide)
  rw [e7]
  exact ⟨rfl, N0, rfl⟩
theorem dca_0 : decode jdk_42_method_56_code 0 = .ok (.aload_n 0, 1) := by decide +kernel
theorem dca_1 : decode jdk_42_method_56_code 1 = .ok (.invokevirtual 492, 3) := by decide +kernel
theorem dca_4 : decode jdk_42_method_56_code 4 = .ok (.ifCond .eq 12, 3) := by decide +kernel
theorem dca_7 : decode jdk_42_method_56_code 7 = .ok (.aload_n 0, 1) := by decide +kernel
theorem dca_8 : decode jdk_42_method_56_code 8 = .ok (.getfield 9, 3) := by decide +kernel
theorem dca_11 : decode jdk_42_method_56_code 11 = .ok (.iload_n 1, 1) := by decide +kernel
theorem dca_12 : decode jdk_42_method_56_code 12 = .ok (.invokestatic 495, 3) := by decide +kernel
theorem dca_15 : decode jdk_42_method_56_code 15 = .ok (.ireturn, 1) := by decide +kernel
theorem dca_16 : decode jdk_42_method_56_code 16 = .ok (.aload_n 0, 1) := by decide +kernel
theorem dca_17 : decode jdk_42_method_56_code 17 = .ok (.getfield 9, 3) := by decide +kernel
theorem dca_20 : decode jdk_42_method_56_code 20 = .ok (.iload_n 1, 1) := by decide +kernel
theorem dca_21 : decode jdk_42_method_56_code 21 = .ok (.invokestatic 498, 3) := by decide +kernel
theorem dca_24 : decode jdk_42_method_56_code 24 = .ok (.ireturn, 1) := by decide +kernel
theorem efca (m : MethodId) (x0 : Addr) (x1 : Int32) : entryFrame m #[(.ref x0), (.int x1)] 2 = mkF m 0 #[.val (.ref x0), .val (.int x1)] [] := by first | (simp [entryFrame, mkF, argsToLocals, Value.category]; done) | rfl
theorem pd_5 : parseMethodDescriptor "()Z" = some ⟨[], some .boolean⟩ := by decide +kernel
set_option maxRecDepth 65536 in
set_option maxHeartbeats 40000000 in
theorem rm_ca (l : Launch) (Z : State) (a0 : Array Value) (hw : ∀ d ∈ tables_1, d.before a0 Z = true) (ws : List Jvm.Cond) (x1 : Addr) (b1 : Addr) (i : Nat) (kb : ClassId) (cs : List Int32) (CS : Int32) (FM : Value) (h0 : Heap) (n0 : Nat) (Z0 : n0 ≤ h0.size) (E1 : Exa Z h0 x1 "java/lang/String") (F1 : Fld Z h0 x1 "java/lang/String" "value" "[B" (.ref b1)) (C1 : Fld Z h0 x1 "java/lang/String" "coder" "B" (.int 1)) (V1 : Arv Z h0 b1 kb .byte (Int32.ofNat (2 * cs.length)) (StrChars.Road.wideBytes cs) (.int 0)) (hn : cs.length ≤ 4000) (hr : ∀ c ∈ cs, ¬ c < 0 ∧ ¬ (65535 : Int32) < c) (hi : i < cs.length) (SA : Sta Z h0 "java/lang/StringUTF16" "$assertionsDisabled" "Z" (.int 1)) (SH : Sta Z h0 "java/lang/StringUTF16" "HI_BYTE_SHIFT" "I" (.int 0)) (SL : Sta Z h0 "java/lang/StringUTF16" "LO_BYTE_SHIFT" "I" (.int 8)) (SF : Sta Z h0 "jdk/internal/util/Preconditions" "SIOOBE_FORMATTER" "Ljava/util/function/BiFunction;" FM) (rFM : FM.isRef = true) (SC : Sta Z h0 "java/lang/String" "COMPACT_STRINGS" "Z" (.int CS)) (hCS : ¬ CS = 0) :
    own_Met l Z ws (⟨"java/lang/String", "charAt", "(I)C"⟩ : MethodName) jdk_42_method_56_code 2 (some .char) ({ frames := 4, cells := 0, slots := 0, locals := 80 } : Room) #[(.ref x1), (.int (Int32.ofNat i))] h0 (fun v h L => v = some (.int (cs.getD i 0)) ∧ Fr n0 L ∧ h = h0) := by
  refine own_body (plainFor_of_name pn_2) ?_
  intro p e s m below meth c s₁ hx hby hml hret hlk hown hnm hZ X0 e0
  have hml : c.maxLocals = 2 := hml
  have hown : s.vm.findClass "java/lang/String" = some m.cls := hown
  have N0 := Fr.nil n0
  have hci : ¬ cs.getD i 0 < 0 ∧ ¬ (65535 : Int32) < cs.getD i 0 := by
    rw [List.getD_eq_getElem?_getD, List.getElem?_eq_getElem hi]
    exact hr _ (List.getElem_mem hi)
  refine own_cast (efca m x1 (Int32.ofNat i)) ?_
  show oG p e below _ s₁ (mkF m 0 #[.val (.ref x1), .val (.int (Int32.ofNat i))] [])
  refine oS (fun t k => XS.aloadN X0.here hx rfl (hb hby dca_0) rfl rfl k) ?_
  show oG p e below _ s₁ (mkF m 1 #[.val (.ref x1), .val (.int (Int32.ofNat i))] [(.ref x1)])
  refine own_callV X0 hx hZ (y := (⟨"java/lang/String", "isLatin1", "()Z"⟩ : MethodName)) (W := 0) (kc := 0) (ks := 0) hown (oW hw 61 rfl) (oW hw 62 rfl) (oW hw 64 rfl) (oW hw 63 rfl) (own_back (W := 0) (rm_il l Z a0 hw [] x1 CS h0 n0 Z0 C1 SC hCS) hZ (oW hw 65 rfl) (oW hw 2 rfl) (by decide) (by decide)) (by decide) (b := x1) E1 (g := (mkF m 1 #[.val (.ref x1), .val (.int (Int32.ofNat i))] [(.ref x1)])) rfl (by rw [hml]; rfl) (argsL := []) (rest := []) (lenOf pd_5 rfl) rfl (by show 2 * 0 + _ ≤ _; exact Nat.le_of_eq rfl) (hb hby dca_1) rfl e0 (by decide) (by decide) (fun v1 T1 L1 X1 hQ1 => ?_)
  obtain ⟨rfl, M1, e1⟩ := hQ1
  show oG p e below _ T1 (mkF m 4 #[.val (.ref x1), .val (.int (Int32.ofNat i))] [(.int 0)])
  refine oS (fun t k => XS.ifYes X1.here hx rfl (pc0 := 4) (pc' := 16) rfl (hb hby dca_4) rfl ((if0 _ _).trans (teq (rfl : (0 : Int32) = 0)).1) (by decide) (by decide) k) ?_
  show oG p e below _ T1 (mkF m 16 #[.val (.ref x1), .val (.int (Int32.ofNat i))] [])
  refine oS (fun t k => XS.aloadN X1.here hx rfl (hb hby dca_16) rfl rfl k) ?_
  show oG p e below _ T1 (mkF m 17 #[.val (.ref x1), .val (.int (Int32.ofNat i))] [(.ref x1)])
  obtain ⟨T17, X17, e17, st17⟩ := getF X1 hx hZ hown (host := "") (Or.inl (oW hw 20 rfl)) Via.refl e1 F1 (g := (mkF m 17 #[.val (.ref x1), .val (.int (Int32.ofNat i))] [(.ref x1)])) rfl rfl (hb hby dca_17)
  refine oS st17 ?_
  show oG p e below _ T17 (mkF m 20 #[.val (.ref x1), .val (.int (Int32.ofNat i))] [(.ref b1)])
  refine oS (fun t k => XS.iloadN X17.here hx rfl (hb hby dca_20) rfl  k) ?_
  show oG p e below _ T17 (mkF m 21 #[.val (.ref x1), .val (.int (Int32.ofNat i))] [(.int (Int32.ofNat i)), (.ref b1)])
  refine own_callS X17 hx hZ (y := (⟨"java/lang/StringUTF16", "charAt", "([BI)C"⟩ : MethodName)) (W := 0) (kc := 0) (ks := 0) hown (oW hw 99 rfl) (oW hw 100 rfl) (oW hw 34 rfl) (oW hw 101 rfl) (own_back (W := 0) (rm_ua l Z a0 hw [] b1 i kb cs FM h0 n0 Z0 V1 hn hr hi SA SH SL SF rFM) hZ (oW hw 101 rfl) (oW hw 34 rfl) (by decide) (by decide)) (by decide) (g := (mkF m 21 #[.val (.ref x1), .val (.int (Int32.ofNat i))] [(.int (Int32.ofNat i)), (.ref b1)])) rfl (by rw [hml]; rfl) (argsL := [(.ref b1), (.int (Int32.ofNat i))]) (rest := []) (lenOf pd_4 rfl) rfl (by show 2 * 0 + _ ≤ _; exact Nat.le_of_eq rfl) (hb hby dca_21) rfl e17 (by decide) (by decide) (fun v21 T21 L21 X21 hQ21 => ?_)
  obtain ⟨rfl, M21, e21⟩ := hQ21
  show oG p e below _ T21 (mkF m 24 #[.val (.ref x1), .val (.int (Int32.ofNat i))] [(.int (cs.getD i 0))])
  refine own_retN (t := .char) X21 hx hlk hret (by simp) (hb hby dca_24) ?_ (by decide) (by decide)
  rw [e21]
  exact ⟨by rw [own_narC hci.1 hci.2], Fr.app (Fr.app N0 M1) M21, rfl⟩
theorem dpu0_0 : decode jdk_52_method_4_code 0 = .ok (.getstatic 44, 3) := by decide +kernel
theorem dpu0_3 : decode jdk_52_method_4_code 3 = .ok (.ifCond .ne 25, 3) := by decide +kernel
theorem dpu0_6 : decode jdk_52_method_4_code 6 = .ok (.iload_n 1, 1) := by decide +kernel
theorem dpu0_7 : decode jdk_52_method_4_code 7 = .ok (.ifCond .lt 11, 3) := by decide +kernel
theorem dpu0_10 : decode jdk_52_method_4_code 10 = .ok (.iload_n 1, 1) := by decide +kernel
theorem dpu0_11 : decode jdk_52_method_4_code 11 = .ok (.aload_n 0, 1) := by decide +kernel
theorem dpu0_12 : decode jdk_52_method_4_code 12 = .ok (.invokestatic 48, 3) := by decide +kernel
theorem dpu0_15 : decode jdk_52_method_4_code 15 = .ok (.if_icmp .lt 13, 3) := by decide +kernel
theorem dpu0_18 : decode jdk_52_method_4_code 18 = .ok (.new 52, 3) := by decide +kernel
theorem dpu0_21 : decode jdk_52_method_4_code 21 = .ok (.dup, 1) := by decide +kernel
theorem dpu0_22 : decode jdk_52_method_4_code 22 = .ok (.ldc 54, 2) := by decide +kernel
theorem dpu0_24 : decode jdk_52_method_4_code 24 = .ok (.invokespecial 56, 3) := by decide +kernel
theorem dpu0_27 : decode jdk_52_method_4_code 27 = .ok (.athrow, 1) := by decide +kernel
theorem dpu0_28 : decode jdk_52_method_4_code 28 = .ok (.iload_n 1, 1) := by decide +kernel
theorem dpu0_29 : decode jdk_52_method_4_code 29 = .ok (.iconst 1, 1) := by decide +kernel
theorem dpu0_30 : decode jdk_52_method_4_code 30 = .ok (.ishl, 1) := by decide +kernel
theorem dpu0_31 : decode jdk_52_method_4_code 31 = .ok (.istore_n 1, 1) := by decide +kernel
theorem dpu0_32 : decode jdk_52_method_4_code 32 = .ok (.aload_n 0, 1) := by decide +kernel
theorem dpu0_33 : decode jdk_52_method_4_code 33 = .ok (.iload_n 1, 1) := by decide +kernel
theorem dpu0_34 : decode jdk_52_method_4_code 34 = .ok (.iinc 1 1, 3) := by decide +kernel
theorem dpu0_37 : decode jdk_52_method_4_code 37 = .ok (.iload_n 2, 1) := by decide +kernel
theorem dpu0_38 : decode jdk_52_method_4_code 38 = .ok (.getstatic 59, 3) := by decide +kernel
theorem dpu0_41 : decode jdk_52_method_4_code 41 = .ok (.ishr, 1) := by decide +kernel
theorem dpu0_42 : decode jdk_52_method_4_code 42 = .ok (.i2b, 1) := by decide +kernel
theorem dpu0_43 : decode jdk_52_method_4_code 43 = .ok (.bastore, 1) := by decide +kernel
theorem dpu0_44 : decode jdk_52_method_4_code 44 = .ok (.aload_n 0, 1) := by decide +kernel
theorem dpu0_45 : decode jdk_52_method_4_code 45 = .ok (.iload_n 1, 1) := by decide +kernel
theorem dpu0_46 : decode jdk_52_method_4_code 46 = .ok (.iload_n 2, 1) := by decide +kernel
theorem dpu0_47 : decode jdk_52_method_4_code 47 = .ok (.getstatic 63, 3) := by decide +kernel
theorem dpu0_50 : decode jdk_52_method_4_code 50 = .ok (.ishr, 1) := by decide +kernel
theorem dpu0_51 : decode jdk_52_method_4_code 51 = .ok (.i2b, 1) := by decide +kernel
theorem dpu0_52 : decode jdk_52_method_4_code 52 = .ok (.bastore, 1) := by decide +kernel
theorem dpu0_53 : decode jdk_52_method_4_code 53 = .ok (.return_, 1) := by decide +kernel
theorem efpu0 (m : MethodId) (x0 : Addr) (x1 : Int32) (x2 : Int32) : entryFrame m #[(.ref x0), (.int x1), (.int x2)] 3 = mkF m 0 #[.val (.ref x0), .val (.int x1), .val (.int x2)] [] := by first | (simp [entryFrame, mkF, argsToLocals, Value.category]; done) | rfl
set_option maxRecDepth 65536 in
set_option maxHeartbeats 40000000 in
theorem rm_pu0 (l : Launch) (Z : State) (a0 : Array Value) (hw : ∀ d ∈ tables_1, d.before a0 Z = true) (ws : List Jvm.Cond) (b1 : Addr) (ch : Int32) (kb : ClassId) (N : Int32) (vs : List Value) (h0 : Heap) (n0 : Nat) (Z0 : n0 ≤ h0.size) (V1 : Arv Z h0 b1 kb .byte N vs (.int 0)) (gb : n0 ≤ b1) (hN : (0 : Int32) < N) (hM : (1 : Int32) < N) (hl : 1 < vs.length) (SA : Sta Z h0 "java/lang/StringUTF16" "$assertionsDisabled" "Z" (.int 1)) (SH : Sta Z h0 "java/lang/StringUTF16" "HI_BYTE_SHIFT" "I" (.int 0)) (SL : Sta Z h0 "java/lang/StringUTF16" "LO_BYTE_SHIFT" "I" (.int 8)) :
    own_Met l Z ws (⟨"java/lang/StringUTF16", "putChar", "([BII)V"⟩ : MethodName) jdk_52_method_4_code 3 none ({ frames := 0, cells := 0, slots := 0, locals := 0 } : Room) #[(.ref b1), (.int 0), (.int ch)] h0 (fun v h L => v = none ∧ Fr n0 L ∧ Keep h0 h [b1] ∧ Arv Z h b1 kb .byte N ((vs.set 0 (.int (StrChars.lo8 ch))).set 1 (.int (StrChars.hi8 ch))) (.int 0)) := by
  refine own_body (plainFor_of_name pn_0) ?_
  intro p e s m below meth c s₁ hx hby hml hret hlk hown hnm hZ X0 e0
  have hml : c.maxLocals = 3 := hml
  have hown : s.vm.findClass "java/lang/StringUTF16" = some m.cls := hown
  have N0 := Fr.nil n0
  refine own_cast (efpu0 m b1 (0 : Int32) ch) ?_
  show oG p e below _ s₁ (mkF m 0 #[.val (.ref b1), .val (.int 0), .val (.int ch)] [])
  obtain ⟨T0, X0, e0, st0⟩ := getS2 X0 hx hZ hown (host := "") (Or.inl (oW hw 93 rfl)) Via.refl e0 SA (g := (mkF m 0 #[.val (.ref b1), .val (.int 0), .val (.int ch)] [])) rfl (hb hby dpu0_0)
  refine oS st0 ?_
  show oG p e below _ T0 (mkF m 3 #[.val (.ref b1), .val (.int 0), .val (.int ch)] [(.int 1)])
  refine oS (fun t k => XS.ifYes X0.here hx rfl (pc0 := 3) (pc' := 28) rfl (hb hby dpu0_3) rfl ((if0 _ _).trans (feq (by decide : ¬ (1 : Int32) = 0)).2) (by decide) (by decide) k) ?_
  show oG p e below _ T0 (mkF m 28 #[.val (.ref b1), .val (.int 0), .val (.int ch)] [])
  refine oS (fun t k => XS.iloadN X0.here hx rfl (hb hby dpu0_28) rfl  k) ?_
  refine oS (fun t k => XS.iconst X0.here hx rfl (hb hby dpu0_29) k) ?_
  refine oS (fun t k => XS.ishl X0.here hx rfl (hb hby dpu0_30) rfl k) ?_
  show oG p e below _ T0 (mkF m 31 #[.val (.ref b1), .val (.int 0), .val (.int ch)] [(.int ((0 : Int32) <<< ((1 : Int32) &&& 31)))])
  rw [(by decide : ((0 : Int32) <<< ((1 : Int32) &&& 31)) = (0 : Int32))]
  show oG p e below _ T0 (mkF m 31 #[.val (.ref b1), .val (.int 0), .val (.int ch)] [(.int 0)])
  refine oS (fun t k => XS.istoreN X0.here hx rfl (hb hby dpu0_31) rfl (l' := #[.val (.ref b1), .val (.int 0), .val (.int ch)]) rfl k) ?_
  show oG p e below _ T0 (mkF m 32 #[.val (.ref b1), .val (.int 0), .val (.int ch)] [])
  refine oS (fun t k => XS.aloadN X0.here hx rfl (hb hby dpu0_32) rfl rfl k) ?_
  refine oS (fun t k => XS.iloadN X0.here hx rfl (hb hby dpu0_33) rfl  k) ?_
  show oG p e below _ T0 (mkF m 34 #[.val (.ref b1), .val (.int 0), .val (.int ch)] [(.int 0), (.ref b1)])
  refine oS (fun t k => XS.iinc X0.here hx rfl (hb hby dpu0_34) rfl (l' := #[.val (.ref b1), .val (.int ((0 : Int32) + (1 : Int32))), .val (.int ch)]) rfl k) ?_
  show oG p e below _ T0 (mkF m 37 #[.val (.ref b1), .val (.int ((0 : Int32) + (1 : Int32))), .val (.int ch)] [(.int 0), (.ref b1)])
  show oG p e below _ T0 (mkF m 37 #[.val (.ref b1), .val (.int 1), .val (.int ch)] [(.int 0), (.ref b1)])
  refine oS (fun t k => XS.iloadN X0.here hx rfl (hb hby dpu0_37) rfl  k) ?_
  show oG p e below _ T0 (mkF m 38 #[.val (.ref b1), .val (.int 1), .val (.int ch)] [(.int ch), (.int 0), (.ref b1)])
  obtain ⟨T38, X38, e38, st38⟩ := getS2 X0 hx hZ hown (host := "") (Or.inl (oW hw 94 rfl)) Via.refl e0 SH (g := (mkF m 38 #[.val (.ref b1), .val (.int 1), .val (.int ch)] [(.int ch), (.int 0), (.ref b1)])) rfl (hb hby dpu0_38)
  refine oS st38 ?_
  show oG p e below _ T38 (mkF m 41 #[.val (.ref b1), .val (.int 1), .val (.int ch)] [(.int 0), (.int ch), (.int 0), (.ref b1)])
  refine oS (fun t k => XS.ishr X38.here hx rfl (hb hby dpu0_41) rfl k) ?_
  show oG p e below _ T38 (mkF m 42 #[.val (.ref b1), .val (.int 1), .val (.int ch)] [(.int (ch >>> ((0 : Int32) &&& 31))), (.int 0), (.ref b1)])
  refine oS (fun t k => XS.i2b X38.here hx rfl (hb hby dpu0_42) rfl k) ?_
  show oG p e below _ T38 (mkF m 43 #[.val (.ref b1), .val (.int 1), .val (.int ch)] [(.int ((ch >>> ((0 : Int32) &&& 31)).toInt8.toInt32)), (.int 0), (.ref b1)])
  obtain ⟨cl43, Ar43, q43, S43, M43, H43, G43⟩ := V1
  have hin43 : ¬ ((0 : Int32) < 0 ∨ cl43.slots.size ≤ ((0 : Int32)).toNatClampNeg) := inb_of S43 ⟨by decide, hN⟩
  obtain ⟨T43, h43, X43, e43, W43, st43⟩ := stB X38 hx hZ e38 Ar43 (j := (0 : Int32)) hin43 (g := (mkF m 43 #[.val (.ref b1), .val (.int 1), .val (.int ch)] [(.int ((ch >>> ((0 : Int32) &&& 31)).toInt8.toInt32)), (.int 0), (.ref b1)])) rfl rfl (hb hby dpu0_43)
  refine oS st43 ?_
  have V43 := Arv.set Ar43 q43 S43 M43 H43 G43 (fits_nar_byte _) W43 0 rfl (by omega)
  have N43 := Fr.snoc X43 N0 gb
  show oG p e below _ T43 (mkF m 44 #[.val (.ref b1), .val (.int 1), .val (.int ch)] [])
  rw [own_narB, StrChars.shr0] at V43
  refine oS (fun t k => XS.aloadN X43.here hx rfl (hb hby dpu0_44) rfl rfl k) ?_
  refine oS (fun t k => XS.iloadN X43.here hx rfl (hb hby dpu0_45) rfl  k) ?_
  refine oS (fun t k => XS.iloadN X43.here hx rfl (hb hby dpu0_46) rfl  k) ?_
  show oG p e below _ T43 (mkF m 47 #[.val (.ref b1), .val (.int 1), .val (.int ch)] [(.int ch), (.int 1), (.ref b1)])
  obtain ⟨T47, X47, e47, st47⟩ := getS2 X43 hx hZ hown (host := "") (Or.inl (oW hw 95 rfl)) Via.refl e43 (SL.wr W43) (g := (mkF m 47 #[.val (.ref b1), .val (.int 1), .val (.int ch)] [(.int ch), (.int 1), (.ref b1)])) rfl (hb hby dpu0_47)
  refine oS st47 ?_
  show oG p e below _ T47 (mkF m 50 #[.val (.ref b1), .val (.int 1), .val (.int ch)] [(.int 8), (.int ch), (.int 1), (.ref b1)])
  refine oS (fun t k => XS.ishr X47.here hx rfl (hb hby dpu0_50) rfl k) ?_
  show oG p e below _ T47 (mkF m 51 #[.val (.ref b1), .val (.int 1), .val (.int ch)] [(.int (ch >>> ((8 : Int32) &&& 31))), (.int 1), (.ref b1)])
  refine oS (fun t k => XS.i2b X47.here hx rfl (hb hby dpu0_51) rfl k) ?_
  show oG p e below _ T47 (mkF m 52 #[.val (.ref b1), .val (.int 1), .val (.int ch)] [(.int ((ch >>> ((8 : Int32) &&& 31)).toInt8.toInt32)), (.int 1), (.ref b1)])
  obtain ⟨cl52, Ar52, q52, S52, M52, H52, G52⟩ := V43
  have hin52 : ¬ ((1 : Int32) < 0 ∨ cl52.slots.size ≤ ((1 : Int32)).toNatClampNeg) := inb_of S52 ⟨by decide, hM⟩
  obtain ⟨T52, h52, X52, e52, W52, st52⟩ := stB X47 hx hZ e47 Ar52 (j := (1 : Int32)) hin52 (g := (mkF m 52 #[.val (.ref b1), .val (.int 1), .val (.int ch)] [(.int ((ch >>> ((8 : Int32) &&& 31)).toInt8.toInt32)), (.int 1), (.ref b1)])) rfl rfl (hb hby dpu0_52)
  refine oS st52 ?_
  have V52 := Arv.set Ar52 q52 S52 M52 H52 G52 (fits_nar_byte _) W52 1 rfl (by rw [List.length_set]; omega)
  have N52 := Fr.snoc X52 N43 gb
  show oG p e below _ T52 (mkF m 53 #[.val (.ref b1), .val (.int 1), .val (.int ch)] [])
  rw [own_narB] at V52
  refine own_retV X52 hx hlk hret (hb hby dpu0_53) ?_ (by decide) (by decide)
  rw [e52]
  exact ⟨rfl, N52, ((Keep.refl h0 [b1]).wr W43 (Or.inl (List.mem_of_getElem? (i := 0) rfl))).wr W52 (Or.inl (List.mem_of_getElem? (i := 0) rfl)), V52⟩
theorem dpu1_0 : decode jdk_52_method_4_code 0 = .ok (.getstatic 44, 3) := by decide +kernel
theorem dpu1_3 : decode jdk_52_method_4_code 3 = .ok (.ifCond .ne 25, 3) := by decide +kernel
theorem dpu1_6 : decode jdk_52_method_4_code 6 = .ok (.iload_n 1, 1) := by decide +kernel
theorem dpu1_7 : decode jdk_52_method_4_code 7 = .ok (.ifCond .lt 11, 3) := by decide +kernel
theorem dpu1_10 : decode jdk_52_method_4_code 10 = .ok (.iload_n 1, 1) := by decide +kernel
theorem dpu1_11 : decode jdk_52_method_4_code 11 = .ok (.aload_n 0, 1) := by decide +kernel
theorem dpu1_12 : decode jdk_52_method_4_code 12 = .ok (.invokestatic 48, 3) := by decide +kernel
theorem dpu1_15 : decode jdk_52_method_4_code 15 = .ok (.if_icmp .lt 13, 3) := by decide +kernel
theorem dpu1_18 : decode jdk_52_method_4_code 18 = .ok (.new 52, 3) := by decide +kernel
theorem dpu1_21 : decode jdk_52_method_4_code 21 = .ok (.dup, 1) := by decide +kernel
theorem dpu1_22 : decode jdk_52_method_4_code 22 = .ok (.ldc 54, 2) := by decide +kernel
theorem dpu1_24 : decode jdk_52_method_4_code 24 = .ok (.invokespecial 56, 3) := by decide +kernel
theorem dpu1_27 : decode jdk_52_method_4_code 27 = .ok (.athrow, 1) := by decide +kernel
theorem dpu1_28 : decode jdk_52_method_4_code 28 = .ok (.iload_n 1, 1) := by decide +kernel
theorem dpu1_29 : decode jdk_52_method_4_code 29 = .ok (.iconst 1, 1) := by decide +kernel
theorem dpu1_30 : decode jdk_52_method_4_code 30 = .ok (.ishl, 1) := by decide +kernel
theorem dpu1_31 : decode jdk_52_method_4_code 31 = .ok (.istore_n 1, 1) := by decide +kernel
theorem dpu1_32 : decode jdk_52_method_4_code 32 = .ok (.aload_n 0, 1) := by decide +kernel
theorem dpu1_33 : decode jdk_52_method_4_code 33 = .ok (.iload_n 1, 1) := by decide +kernel
theorem dpu1_34 : decode jdk_52_method_4_code 34 = .ok (.iinc 1 1, 3) := by decide +kernel
theorem dpu1_37 : decode jdk_52_method_4_code 37 = .ok (.iload_n 2, 1) := by decide +kernel
theorem dpu1_38 : decode jdk_52_method_4_code 38 = .ok (.getstatic 59, 3) := by decide +kernel
theorem dpu1_41 : decode jdk_52_method_4_code 41 = .ok (.ishr, 1) := by decide +kernel
theorem dpu1_42 : decode jdk_52_method_4_code 42 = .ok (.i2b, 1) := by decide +kernel
theorem dpu1_43 : decode jdk_52_method_4_code 43 = .ok (.bastore, 1) := by decide +kernel
theorem dpu1_44 : decode jdk_52_method_4_code 44 = .ok (.aload_n 0, 1) := by decide +kernel
theorem dpu1_45 : decode jdk_52_method_4_code 45 = .ok (.iload_n 1, 1) := by decide +kernel
theorem dpu1_46 : decode jdk_52_method_4_code 46 = .ok (.iload_n 2, 1) := by decide +kernel
theorem dpu1_47 : decode jdk_52_method_4_code 47 = .ok (.getstatic 63, 3) := by decide +kernel
theorem dpu1_50 : decode jdk_52_method_4_code 50 = .ok (.ishr, 1) := by decide +kernel
theorem dpu1_51 : decode jdk_52_method_4_code 51 = .ok (.i2b, 1) := by decide +kernel
theorem dpu1_52 : decode jdk_52_method_4_code 52 = .ok (.bastore, 1) := by decide +kernel
theorem dpu1_53 : decode jdk_52_method_4_code 53 = .ok (.return_, 1) := by decide +kernel
theorem efpu1 (m : MethodId) (x0 : Addr) (x1 : Int32) (x2 : Int32) : entryFrame m #[(.ref x0), (.int x1), (.int x2)] 3 = mkF m 0 #[.val (.ref x0), .val (.int x1), .val (.int x2)] [] := by first | (simp [entryFrame, mkF, argsToLocals, Value.category]; done) | rfl
set_option maxRecDepth 65536 in
set_option maxHeartbeats 40000000 in
theorem rm_pu1 (l : Launch) (Z : State) (a0 : Array Value) (hw : ∀ d ∈ tables_1, d.before a0 Z = true) (ws : List Jvm.Cond) (b1 : Addr) (ch : Int32) (kb : ClassId) (N : Int32) (vs : List Value) (h0 : Heap) (n0 : Nat) (Z0 : n0 ≤ h0.size) (V1 : Arv Z h0 b1 kb .byte N vs (.int 0)) (gb : n0 ≤ b1) (hN : (2 : Int32) < N) (hM : (3 : Int32) < N) (hl : 3 < vs.length) (SA : Sta Z h0 "java/lang/StringUTF16" "$assertionsDisabled" "Z" (.int 1)) (SH : Sta Z h0 "java/lang/StringUTF16" "HI_BYTE_SHIFT" "I" (.int 0)) (SL : Sta Z h0 "java/lang/StringUTF16" "LO_BYTE_SHIFT" "I" (.int 8)) :
    own_Met l Z ws (⟨"java/lang/StringUTF16", "putChar", "([BII)V"⟩ : MethodName) jdk_52_method_4_code 3 none ({ frames := 0, cells := 0, slots := 0, locals := 0 } : Room) #[(.ref b1), (.int 1), (.int ch)] h0 (fun v h L => v = none ∧ Fr n0 L ∧ Keep h0 h [b1] ∧ Arv Z h b1 kb .byte N ((vs.set 2 (.int (StrChars.lo8 ch))).set 3 (.int (StrChars.hi8 ch))) (.int 0)) := by
  refine own_body (plainFor_of_name pn_0) ?_
  intro p e s m below meth c s₁ hx hby hml hret hlk hown hnm hZ X0 e0
  have hml : c.maxLocals = 3 := hml
  have hown : s.vm.findClass "java/lang/StringUTF16" = some m.cls := hown
  have N0 := Fr.nil n0
  refine own_cast (efpu1 m b1 (1 : Int32) ch) ?_
  show oG p e below _ s₁ (mkF m 0 #[.val (.ref b1), .val (.int 1), .val (.int ch)] [])
  obtain ⟨T0, X0, e0, st0⟩ := getS2 X0 hx hZ hown (host := "") (Or.inl (oW hw 93 rfl)) Via.refl e0 SA (g := (mkF m 0 #[.val (.ref b1), .val (.int 1), .val (.int ch)] [])) rfl (hb hby dpu1_0)
  refine oS st0 ?_
  show oG p e below _ T0 (mkF m 3 #[.val (.ref b1), .val (.int 1), .val (.int ch)] [(.int 1)])
  refine oS (fun t k => XS.ifYes X0.here hx rfl (pc0 := 3) (pc' := 28) rfl (hb hby dpu1_3) rfl ((if0 _ _).trans (feq (by decide : ¬ (1 : Int32) = 0)).2) (by decide) (by decide) k) ?_
  show oG p e below _ T0 (mkF m 28 #[.val (.ref b1), .val (.int 1), .val (.int ch)] [])
  refine oS (fun t k => XS.iloadN X0.here hx rfl (hb hby dpu1_28) rfl  k) ?_
  refine oS (fun t k => XS.iconst X0.here hx rfl (hb hby dpu1_29) k) ?_
  refine oS (fun t k => XS.ishl X0.here hx rfl (hb hby dpu1_30) rfl k) ?_
  show oG p e below _ T0 (mkF m 31 #[.val (.ref b1), .val (.int 1), .val (.int ch)] [(.int ((1 : Int32) <<< ((1 : Int32) &&& 31)))])
  rw [(by decide : ((1 : Int32) <<< ((1 : Int32) &&& 31)) = (2 : Int32))]
  show oG p e below _ T0 (mkF m 31 #[.val (.ref b1), .val (.int 1), .val (.int ch)] [(.int 2)])
  refine oS (fun t k => XS.istoreN X0.here hx rfl (hb hby dpu1_31) rfl (l' := #[.val (.ref b1), .val (.int 2), .val (.int ch)]) rfl k) ?_
  show oG p e below _ T0 (mkF m 32 #[.val (.ref b1), .val (.int 2), .val (.int ch)] [])
  refine oS (fun t k => XS.aloadN X0.here hx rfl (hb hby dpu1_32) rfl rfl k) ?_
  refine oS (fun t k => XS.iloadN X0.here hx rfl (hb hby dpu1_33) rfl  k) ?_
  show oG p e below _ T0 (mkF m 34 #[.val (.ref b1), .val (.int 2), .val (.int ch)] [(.int 2), (.ref b1)])
  refine oS (fun t k => XS.iinc X0.here hx rfl (hb hby dpu1_34) rfl (l' := #[.val (.ref b1), .val (.int ((2 : Int32) + (1 : Int32))), .val (.int ch)]) rfl k) ?_
  show oG p e below _ T0 (mkF m 37 #[.val (.ref b1), .val (.int ((2 : Int32) + (1 : Int32))), .val (.int ch)] [(.int 2), (.ref b1)])
  show oG p e below _ T0 (mkF m 37 #[.val (.ref b1), .val (.int 3), .val (.int ch)] [(.int 2), (.ref b1)])
  refine oS (fun t k => XS.iloadN X0.here hx rfl (hb hby dpu1_37) rfl  k) ?_
  show oG p e below _ T0 (mkF m 38 #[.val (.ref b1), .val (.int 3), .val (.int ch)] [(.int ch), (.int 2), (.ref b1)])
  obtain ⟨T38, X38, e38, st38⟩ := getS2 X0 hx hZ hown (host := "") (Or.inl (oW hw 94 rfl)) Via.refl e0 SH (g := (mkF m 38 #[.val (.ref b1), .val (.int 3), .val (.int ch)] [(.int ch), (.int 2), (.ref b1)])) rfl (hb hby dpu1_38)
  refine oS st38 ?_
  show oG p e below _ T38 (mkF m 41 #[.val (.ref b1), .val (.int 3), .val (.int ch)] [(.int 0), (.int ch), (.int 2), (.ref b1)])
  refine oS (fun t k => XS.ishr X38.here hx rfl (hb hby dpu1_41) rfl k) ?_
  show oG p e below _ T38 (mkF m 42 #[.val (.ref b1), .val (.int 3), .val (.int ch)] [(.int (ch >>> ((0 : Int32) &&& 31))), (.int 2), (.ref b1)])
  refine oS (fun t k => XS.i2b X38.here hx rfl (hb hby dpu1_42) rfl k) ?_
  show oG p e below _ T38 (mkF m 43 #[.val (.ref b1), .val (.int 3), .val (.int ch)] [(.int ((ch >>> ((0 : Int32) &&& 31)).toInt8.toInt32)), (.int 2), (.ref b1)])
  obtain ⟨cl43, Ar43, q43, S43, M43, H43, G43⟩ := V1
  have hin43 : ¬ ((2 : Int32) < 0 ∨ cl43.slots.size ≤ ((2 : Int32)).toNatClampNeg) := inb_of S43 ⟨by decide, hN⟩
  obtain ⟨T43, h43, X43, e43, W43, st43⟩ := stB X38 hx hZ e38 Ar43 (j := (2 : Int32)) hin43 (g := (mkF m 43 #[.val (.ref b1), .val (.int 3), .val (.int ch)] [(.int ((ch >>> ((0 : Int32) &&& 31)).toInt8.toInt32)), (.int 2), (.ref b1)])) rfl rfl (hb hby dpu1_43)
  refine oS st43 ?_
  have V43 := Arv.set Ar43 q43 S43 M43 H43 G43 (fits_nar_byte _) W43 2 rfl (by omega)
  have N43 := Fr.snoc X43 N0 gb
  show oG p e below _ T43 (mkF m 44 #[.val (.ref b1), .val (.int 3), .val (.int ch)] [])
  rw [own_narB, StrChars.shr0] at V43
  refine oS (fun t k => XS.aloadN X43.here hx rfl (hb hby dpu1_44) rfl rfl k) ?_
  refine oS (fun t k => XS.iloadN X43.here hx rfl (hb hby dpu1_45) rfl  k) ?_
  refine oS (fun t k => XS.iloadN X43.here hx rfl (hb hby dpu1_46) rfl  k) ?_
  show oG p e below _ T43 (mkF m 47 #[.val (.ref b1), .val (.int 3), .val (.int ch)] [(.int ch), (.int 3), (.ref b1)])
  obtain ⟨T47, X47, e47, st47⟩ := getS2 X43 hx hZ hown (host := "") (Or.inl (oW hw 95 rfl)) Via.refl e43 (SL.wr W43) (g := (mkF m 47 #[.val (.ref b1), .val (.int 3), .val (.int ch)] [(.int ch), (.int 3), (.ref b1)])) rfl (hb hby dpu1_47)
  refine oS st47 ?_
  show oG p e below _ T47 (mkF m 50 #[.val (.ref b1), .val (.int 3), .val (.int ch)] [(.int 8), (.int ch), (.int 3), (.ref b1)])
  refine oS (fun t k => XS.ishr X47.here hx rfl (hb hby dpu1_50) rfl k) ?_
  show oG p e below _ T47 (mkF m 51 #[.val (.ref b1), .val (.int 3), .val (.int ch)] [(.int (ch >>> ((8 : Int32) &&& 31))), (.int 3), (.ref b1)])
  refine oS (fun t k => XS.i2b X47.here hx rfl (hb hby dpu1_51) rfl k) ?_
  show oG p e below _ T47 (mkF m 52 #[.val (.ref b1), .val (.int 3), .val (.int ch)] [(.int ((ch >>> ((8 : Int32) &&& 31)).toInt8.toInt32)), (.int 3), (.ref b1)])
  obtain ⟨cl52, Ar52, q52, S52, M52, H52, G52⟩ := V43
  have hin52 : ¬ ((3 : Int32) < 0 ∨ cl52.slots.size ≤ ((3 : Int32)).toNatClampNeg) := inb_of S52 ⟨by decide, hM⟩
  obtain ⟨T52, h52, X52, e52, W52, st52⟩ := stB X47 hx hZ e47 Ar52 (j := (3 : Int32)) hin52 (g := (mkF m 52 #[.val (.ref b1), .val (.int 3), .val (.int ch)] [(.int ((ch >>> ((8 : Int32) &&& 31)).toInt8.toInt32)), (.int 3), (.ref b1)])) rfl rfl (hb hby dpu1_52)
  refine oS st52 ?_
  have V52 := Arv.set Ar52 q52 S52 M52 H52 G52 (fits_nar_byte _) W52 3 rfl (by rw [List.length_set]; omega)
  have N52 := Fr.snoc X52 N43 gb
  show oG p e below _ T52 (mkF m 53 #[.val (.ref b1), .val (.int 3), .val (.int ch)] [])
  rw [own_narB] at V52
  refine own_retV X52 hx hlk hret (hb hby dpu1_53) ?_ (by decide) (by decide)
  rw [e52]
  exact ⟨rfl, N52, ((Keep.refl h0 [b1]).wr W43 (Or.inl (List.mem_of_getElem? (i := 0) rfl))).wr W52 (Or.inl (List.mem_of_getElem? (i := 0) rfl)), V52⟩
theorem dpu2_0 : decode jdk_52_method_4_code 0 = .ok (.getstatic 44, 3) := by decide +kernel
theorem dpu2_3 : decode jdk_52_method_4_code 3 = .ok (.ifCond .ne 25, 3) := by decide +kernel
theorem dpu2_6 : decode jdk_52_method_4_code 6 = .ok (.iload_n 1, 1) := by decide +kernel
theorem dpu2_7 : decode jdk_52_method_4_code 7 = .ok (.ifCond .lt 11, 3) := by decide +kernel
theorem dpu2_10 : decode jdk_52_method_4_code 10 = .ok (.iload_n 1, 1) := by decide +kernel
theorem dpu2_11 : decode jdk_52_method_4_code 11 = .ok (.aload_n 0, 1) := by decide +kernel
theorem dpu2_12 : decode jdk_52_method_4_code 12 = .ok (.invokestatic 48, 3) := by decide +kernel
theorem dpu2_15 : decode jdk_52_method_4_code 15 = .ok (.if_icmp .lt 13, 3) := by decide +kernel
theorem dpu2_18 : decode jdk_52_method_4_code 18 = .ok (.new 52, 3) := by decide +kernel
theorem dpu2_21 : decode jdk_52_method_4_code 21 = .ok (.dup, 1) := by decide +kernel
theorem dpu2_22 : decode jdk_52_method_4_code 22 = .ok (.ldc 54, 2) := by decide +kernel
theorem dpu2_24 : decode jdk_52_method_4_code 24 = .ok (.invokespecial 56, 3) := by decide +kernel
theorem dpu2_27 : decode jdk_52_method_4_code 27 = .ok (.athrow, 1) := by decide +kernel
theorem dpu2_28 : decode jdk_52_method_4_code 28 = .ok (.iload_n 1, 1) := by decide +kernel
theorem dpu2_29 : decode jdk_52_method_4_code 29 = .ok (.iconst 1, 1) := by decide +kernel
theorem dpu2_30 : decode jdk_52_method_4_code 30 = .ok (.ishl, 1) := by decide +kernel
theorem dpu2_31 : decode jdk_52_method_4_code 31 = .ok (.istore_n 1, 1) := by decide +kernel
theorem dpu2_32 : decode jdk_52_method_4_code 32 = .ok (.aload_n 0, 1) := by decide +kernel
theorem dpu2_33 : decode jdk_52_method_4_code 33 = .ok (.iload_n 1, 1) := by decide +kernel
theorem dpu2_34 : decode jdk_52_method_4_code 34 = .ok (.iinc 1 1, 3) := by decide +kernel
theorem dpu2_37 : decode jdk_52_method_4_code 37 = .ok (.iload_n 2, 1) := by decide +kernel
theorem dpu2_38 : decode jdk_52_method_4_code 38 = .ok (.getstatic 59, 3) := by decide +kernel
theorem dpu2_41 : decode jdk_52_method_4_code 41 = .ok (.ishr, 1) := by decide +kernel
theorem dpu2_42 : decode jdk_52_method_4_code 42 = .ok (.i2b, 1) := by decide +kernel
theorem dpu2_43 : decode jdk_52_method_4_code 43 = .ok (.bastore, 1) := by decide +kernel
theorem dpu2_44 : decode jdk_52_method_4_code 44 = .ok (.aload_n 0, 1) := by decide +kernel
theorem dpu2_45 : decode jdk_52_method_4_code 45 = .ok (.iload_n 1, 1) := by decide +kernel
theorem dpu2_46 : decode jdk_52_method_4_code 46 = .ok (.iload_n 2, 1) := by decide +kernel
theorem dpu2_47 : decode jdk_52_method_4_code 47 = .ok (.getstatic 63, 3) := by decide +kernel
theorem dpu2_50 : decode jdk_52_method_4_code 50 = .ok (.ishr, 1) := by decide +kernel
theorem dpu2_51 : decode jdk_52_method_4_code 51 = .ok (.i2b, 1) := by decide +kernel
theorem dpu2_52 : decode jdk_52_method_4_code 52 = .ok (.bastore, 1) := by decide +kernel
theorem dpu2_53 : decode jdk_52_method_4_code 53 = .ok (.return_, 1) := by decide +kernel
theorem efpu2 (m : MethodId) (x0 : Addr) (x1 : Int32) (x2 : Int32) : entryFrame m #[(.ref x0), (.int x1), (.int x2)] 3 = mkF m 0 #[.val (.ref x0), .val (.int x1), .val (.int x2)] [] := by first | (simp [entryFrame, mkF, argsToLocals, Value.category]; done) | rfl
set_option maxRecDepth 65536 in
set_option maxHeartbeats 40000000 in
theorem rm_pu2 (l : Launch) (Z : State) (a0 : Array Value) (hw : ∀ d ∈ tables_1, d.before a0 Z = true) (ws : List Jvm.Cond) (b1 : Addr) (ch : Int32) (kb : ClassId) (N : Int32) (vs : List Value) (h0 : Heap) (n0 : Nat) (Z0 : n0 ≤ h0.size) (V1 : Arv Z h0 b1 kb .byte N vs (.int 0)) (gb : n0 ≤ b1) (hN : (4 : Int32) < N) (hM : (5 : Int32) < N) (hl : 5 < vs.length) (SA : Sta Z h0 "java/lang/StringUTF16" "$assertionsDisabled" "Z" (.int 1)) (SH : Sta Z h0 "java/lang/StringUTF16" "HI_BYTE_SHIFT" "I" (.int 0)) (SL : Sta Z h0 "java/lang/StringUTF16" "LO_BYTE_SHIFT" "I" (.int 8)) :
    own_Met l Z ws (⟨"java/lang/StringUTF16", "putChar", "([BII)V"⟩ : MethodName) jdk_52_method_4_code 3 none ({ frames := 0, cells := 0, slots := 0, locals := 0 } : Room) #[(.ref b1), (.int 2), (.int ch)] h0 (fun v h L => v = none ∧ Fr n0 L ∧ Keep h0 h [b1] ∧ Arv Z h b1 kb .byte N ((vs.set 4 (.int (StrChars.lo8 ch))).set 5 (.int (StrChars.hi8 ch))) (.int 0)) := by
  refine own_body (plainFor_of_name pn_0) ?_
  intro p e s m below meth c s₁ hx hby hml hret hlk hown hnm hZ X0 e0
  have hml : c.maxLocals = 3 := hml
  have hown : s.vm.findClass "java/lang/StringUTF16" = some m.cls := hown
  have N0 := Fr.nil n0
  refine own_cast (efpu2 m b1 (2 : Int32) ch) ?_
  show oG p e below _ s₁ (mkF m 0 #[.val (.ref b1), .val (.int 2), .val (.int ch)] [])
  obtain ⟨T0, X0, e0, st0⟩ := getS2 X0 hx hZ hown (host := "") (Or.inl (oW hw 93 rfl)) Via.refl e0 SA (g := (mkF m 0 #[.val (.ref b1), .val (.int 2), .val (.int ch)] [])) rfl (hb hby dpu2_0)
  refine oS st0 ?_
  show oG p e below _ T0 (mkF m 3 #[.val (.ref b1), .val (.int 2), .val (.int ch)] [(.int 1)])
  refine oS (fun t k => XS.ifYes X0.here hx rfl (pc0 := 3) (pc' := 28) rfl (hb hby dpu2_3) rfl ((if0 _ _).trans (feq (by decide : ¬ (1 : Int32) = 0)).2) (by decide) (by decide) k) ?_
  show oG p e below _ T0 (mkF m 28 #[.val (.ref b1), .val (.int 2), .val (.int ch)] [])
  refine oS (fun t k => XS.iloadN X0.here hx rfl (hb hby dpu2_28) rfl  k) ?_
  refine oS (fun t k => XS.iconst X0.here hx rfl (hb hby dpu2_29) k) ?_
  refine oS (fun t k => XS.ishl X0.here hx rfl (hb hby dpu2_30) rfl k) ?_
  show oG p e below _ T0 (mkF m 31 #[.val (.ref b1), .val (.int 2), .val (.int ch)] [(.int ((2 : Int32) <<< ((1 : Int32) &&& 31)))])
  rw [(by decide : ((2 : Int32) <<< ((1 : Int32) &&& 31)) = (4 : Int32))]
  show oG p e below _ T0 (mkF m 31 #[.val (.ref b1), .val (.int 2), .val (.int ch)] [(.int 4)])
  refine oS (fun t k => XS.istoreN X0.here hx rfl (hb hby dpu2_31) rfl (l' := #[.val (.ref b1), .val (.int 4), .val (.int ch)]) rfl k) ?_
  show oG p e below _ T0 (mkF m 32 #[.val (.ref b1), .val (.int 4), .val (.int ch)] [])
  refine oS (fun t k => XS.aloadN X0.here hx rfl (hb hby dpu2_32) rfl rfl k) ?_
  refine oS (fun t k => XS.iloadN X0.here hx rfl (hb hby dpu2_33) rfl  k) ?_
  show oG p e below _ T0 (mkF m 34 #[.val (.ref b1), .val (.int 4), .val (.int ch)] [(.int 4), (.ref b1)])
  refine oS (fun t k => XS.iinc X0.here hx rfl (hb hby dpu2_34) rfl (l' := #[.val (.ref b1), .val (.int ((4 : Int32) + (1 : Int32))), .val (.int ch)]) rfl k) ?_
  show oG p e below _ T0 (mkF m 37 #[.val (.ref b1), .val (.int ((4 : Int32) + (1 : Int32))), .val (.int ch)] [(.int 4), (.ref b1)])
  show oG p e below _ T0 (mkF m 37 #[.val (.ref b1), .val (.int 5), .val (.int ch)] [(.int 4), (.ref b1)])
  refine oS (fun t k => XS.iloadN X0.here hx rfl (hb hby dpu2_37) rfl  k) ?_
  show oG p e below _ T0 (mkF m 38 #[.val (.ref b1), .val (.int 5), .val (.int ch)] [(.int ch), (.int 4), (.ref b1)])
  obtain ⟨T38, X38, e38, st38⟩ := getS2 X0 hx hZ hown (host := "") (Or.inl (oW hw 94 rfl)) Via.refl e0 SH (g := (mkF m 38 #[.val (.ref b1), .val (.int 5), .val (.int ch)] [(.int ch), (.int 4), (.ref b1)])) rfl (hb hby dpu2_38)
  refine oS st38 ?_
  show oG p e below _ T38 (mkF m 41 #[.val (.ref b1), .val (.int 5), .val (.int ch)] [(.int 0), (.int ch), (.int 4), (.ref b1)])
  refine oS (fun t k => XS.ishr X38.here hx rfl (hb hby dpu2_41) rfl k) ?_
  show oG p e below _ T38 (mkF m 42 #[.val (.ref b1), .val (.int 5), .val (.int ch)] [(.int (ch >>> ((0 : Int32) &&& 31))), (.int 4), (.ref b1)])
  refine oS (fun t k => XS.i2b X38.here hx rfl (hb hby dpu2_42) rfl k) ?_
  show oG p e below _ T38 (mkF m 43 #[.val (.ref b1), .val (.int 5), .val (.int ch)] [(.int ((ch >>> ((0 : Int32) &&& 31)).toInt8.toInt32)), (.int 4), (.ref b1)])
  obtain ⟨cl43, Ar43, q43, S43, M43, H43, G43⟩ := V1
  have hin43 : ¬ ((4 : Int32) < 0 ∨ cl43.slots.size ≤ ((4 : Int32)).toNatClampNeg) := inb_of S43 ⟨by decide, hN⟩
  obtain ⟨T43, h43, X43, e43, W43, st43⟩ := stB X38 hx hZ e38 Ar43 (j := (4 : Int32)) hin43 (g := (mkF m 43 #[.val (.ref b1), .val (.int 5), .val (.int ch)] [(.int ((ch >>> ((0 : Int32) &&& 31)).toInt8.toInt32)), (.int 4), (.ref b1)])) rfl rfl (hb hby dpu2_43)
  refine oS st43 ?_
  have V43 := Arv.set Ar43 q43 S43 M43 H43 G43 (fits_nar_byte _) W43 4 rfl (by omega)
  have N43 := Fr.snoc X43 N0 gb
  show oG p e below _ T43 (mkF m 44 #[.val (.ref b1), .val (.int 5), .val (.int ch)] [])
  rw [own_narB, StrChars.shr0] at V43
  refine oS (fun t k => XS.aloadN X43.here hx rfl (hb hby dpu2_44) rfl rfl k) ?_
  refine oS (fun t k => XS.iloadN X43.here hx rfl (hb hby dpu2_45) rfl  k) ?_
  refine oS (fun t k => XS.iloadN X43.here hx rfl (hb hby dpu2_46) rfl  k) ?_
  show oG p e below _ T43 (mkF m 47 #[.val (.ref b1), .val (.int 5), .val (.int ch)] [(.int ch), (.int 5), (.ref b1)])
  obtain ⟨T47, X47, e47, st47⟩ := getS2 X43 hx hZ hown (host := "") (Or.inl (oW hw 95 rfl)) Via.refl e43 (SL.wr W43) (g := (mkF m 47 #[.val (.ref b1), .val (.int 5), .val (.int ch)] [(.int ch), (.int 5), (.ref b1)])) rfl (hb hby dpu2_47)
  refine oS st47 ?_
  show oG p e below _ T47 (mkF m 50 #[.val (.ref b1), .val (.int 5), .val (.int ch)] [(.int 8), (.int ch), (.int 5), (.ref b1)])
  refine oS (fun t k => XS.ishr X47.here hx rfl (hb hby dpu2_50) rfl k) ?_
  show oG p e below _ T47 (mkF m 51 #[.val (.ref b1), .val (.int 5), .val (.int ch)] [(.int (ch >>> ((8 : Int32) &&& 31))), (.int 5), (.ref b1)])
  refine oS (fun t k => XS.i2b X47.here hx rfl (hb hby dpu2_51) rfl k) ?_
  show oG p e below _ T47 (mkF m 52 #[.val (.ref b1), .val (.int 5), .val (.int ch)] [(.int ((ch >>> ((8 : Int32) &&& 31)).toInt8.toInt32)), (.int 5), (.ref b1)])
  obtain ⟨cl52, Ar52, q52, S52, M52, H52, G52⟩ := V43
  have hin52 : ¬ ((5 : Int32) < 0 ∨ cl52.slots.size ≤ ((5 : Int32)).toNatClampNeg) := inb_of S52 ⟨by decide, hM⟩
  obtain ⟨T52, h52, X52, e52, W52, st52⟩ := stB X47 hx hZ e47 Ar52 (j := (5 : Int32)) hin52 (g := (mkF m 52 #[.val (.ref b1), .val (.int 5), .val (.int ch)] [(.int ((ch >>> ((8 : Int32) &&& 31)).toInt8.toInt32)), (.int 5), (.ref b1)])) rfl rfl (hb hby dpu2_52)
  refine oS st52 ?_
  have V52 := Arv.set Ar52 q52 S52 M52 H52 G52 (fits_nar_byte _) W52 5 rfl (by rw [List.length_set]; omega)
  have N52 := Fr.snoc X52 N43 gb
  show oG p e below _ T52 (mkF m 53 #[.val (.ref b1), .val (.int 5), .val (.int ch)] [])
  rw [own_narB] at V52
  refine own_retV X52 hx hlk hret (hb hby dpu2_53) ?_ (by decide) (by decide)
  rw [e52]
  exact ⟨rfl, N52, ((Keep.refl h0 [b1]).wr W43 (Or.inl (List.mem_of_getElem? (i := 0) rfl))).wr W52 (Or.inl (List.mem_of_getElem? (i := 0) rfl)), V52⟩
theorem dpu3_0 : decode jdk_52_method_4_code 0 = .ok (.getstatic 44, 3) := by decide +kernel
theorem dpu3_3 : decode jdk_52_method_4_code 3 = .ok (.ifCond .ne 25, 3) := by decide +kernel
theorem dpu3_6 : decode jdk_52_method_4_code 6 = .ok (.iload_n 1, 1) := by decide +kernel
theorem dpu3_7 : decode jdk_52_method_4_code 7 = .ok (.ifCond .lt 11, 3) := by decide +kernel
theorem dpu3_10 : decode jdk_52_method_4_code 10 = .ok (.iload_n 1, 1) := by decide +kernel
theorem dpu3_11 : decode jdk_52_method_4_code 11 = .ok (.aload_n 0, 1) := by decide +kernel
theorem dpu3_12 : decode jdk_52_method_4_code 12 = .ok (.invokestatic 48, 3) := by decide +kernel
theorem dpu3_15 : decode jdk_52_method_4_code 15 = .ok (.if_icmp .lt 13, 3) := by decide +kernel
theorem dpu3_18 : decode jdk_52_method_4_code 18 = .ok (.new 52, 3) := by decide +kernel
theorem dpu3_21 : decode jdk_52_method_4_code 21 = .ok (.dup, 1) := by decide +kernel
theorem dpu3_22 : decode jdk_52_method_4_code 22 = .ok (.ldc 54, 2) := by decide +kernel
theorem dpu3_24 : decode jdk_52_method_4_code 24 = .ok (.invokespecial 56, 3) := by decide +kernel
theorem dpu3_27 : decode jdk_52_method_4_code 27 = .ok (.athrow, 1) := by decide +kernel
theorem dpu3_28 : decode jdk_52_method_4_code 28 = .ok (.iload_n 1, 1) := by decide +kernel
theorem dpu3_29 : decode jdk_52_method_4_code 29 = .ok (.iconst 1, 1) := by decide +kernel
theorem dpu3_30 : decode jdk_52_method_4_code 30 = .ok (.ishl, 1) := by decide +kernel
theorem dpu3_31 : decode jdk_52_method_4_code 31 = .ok (.istore_n 1, 1) := by decide +kernel
theorem dpu3_32 : decode jdk_52_method_4_code 32 = .ok (.aload_n 0, 1) := by decide +kernel
theorem dpu3_33 : decode jdk_52_method_4_code 33 = .ok (.iload_n 1, 1) := by decide +kernel
theorem dpu3_34 : decode jdk_52_method_4_code 34 = .ok (.iinc 1 1, 3) := by decide +kernel
theorem dpu3_37 : decode jdk_52_method_4_code 37 = .ok (.iload_n 2, 1) := by decide +kernel
theorem dpu3_38 : decode jdk_52_method_4_code 38 = .ok (.getstatic 59, 3) := by decide +kernel
theorem dpu3_41 : decode jdk_52_method_4_code 41 = .ok (.ishr, 1) := by decide +kernel
theorem dpu3_42 : decode jdk_52_method_4_code 42 = .ok (.i2b, 1) := by decide +kernel
theorem dpu3_43 : decode jdk_52_method_4_code 43 = .ok (.bastore, 1) := by decide +kernel
theorem dpu3_44 : decode jdk_52_method_4_code 44 = .ok (.aload_n 0, 1) := by decide +kernel
theorem dpu3_45 : decode jdk_52_method_4_code 45 = .ok (.iload_n 1, 1) := by decide +kernel
theorem dpu3_46 : decode jdk_52_method_4_code 46 = .ok (.iload_n 2, 1) := by decide +kernel
theorem dpu3_47 : decode jdk_52_method_4_code 47 = .ok (.getstatic 63, 3) := by decide +kernel
theorem dpu3_50 : decode jdk_52_method_4_code 50 = .ok (.ishr, 1) := by decide +kernel
theorem dpu3_51 : decode jdk_52_method_4_code 51 = .ok (.i2b, 1) := by decide +kernel
theorem dpu3_52 : decode jdk_52_method_4_code 52 = .ok (.bastore, 1) := by decide +kernel
theorem dpu3_53 : decode jdk_52_method_4_code 53 = .ok (.return_, 1) := by decide +kernel
theorem efpu3 (m : MethodId) (x0 : Addr) (x1 : Int32) (x2 : Int32) : entryFrame m #[(.ref x0), (.int x1), (.int x2)] 3 = mkF m 0 #[.val (.ref x0), .val (.int x1), .val (.int x2)] [] := by first | (simp [entryFrame, mkF, argsToLocals, Value.category]; done) | rfl
set_option maxRecDepth 65536 in
set_option maxHeartbeats 40000000 in
theorem rm_pu3 (l : Launch) (Z : State) (a0 : Array Value) (hw : ∀ d ∈ tables_1, d.before a0 Z = true) (ws : List Jvm.Cond) (b1 : Addr) (ch : Int32) (kb : ClassId) (N : Int32) (vs : List Value) (h0 : Heap) (n0 : Nat) (Z0 : n0 ≤ h0.size) (V1 : Arv Z h0 b1 kb .byte N vs (.int 0)) (gb : n0 ≤ b1) (hN : (6 : Int32) < N) (hM : (7 : Int32) < N) (hl : 7 < vs.length) (SA : Sta Z h0 "java/lang/StringUTF16" "$assertionsDisabled" "Z" (.int 1)) (SH : Sta Z h0 "java/lang/StringUTF16" "HI_BYTE_SHIFT" "I" (.int 0)) (SL : Sta Z h0 "java/lang/StringUTF16" "LO_BYTE_SHIFT" "I" (.int 8)) :
    own_Met l Z ws (⟨"java/lang/StringUTF16", "putChar", "([BII)V"⟩ : MethodName) jdk_52_method_4_code 3 none ({ frames := 0, cells := 0, slots := 0, locals := 0 } : Room) #[(.ref b1), (.int 3), (.int ch)] h0 (fun v h L => v = none ∧ Fr n0 L ∧ Keep h0 h [b1] ∧ Arv Z h b1 kb .byte N ((vs.set 6 (.int (StrChars.lo8 ch))).set 7 (.int (StrChars.hi8 ch))) (.int 0)) := by
  refine own_body (plainFor_of_name pn_0) ?_
  intro p e s m below meth c s₁ hx hby hml hret hlk hown hnm hZ X0 e0
  have hml : c.maxLocals = 3 := hml
  have hown : s.vm.findClass "java/lang/StringUTF16" = some m.cls := hown
  have N0 := Fr.nil n0
  refine own_cast (efpu3 m b1 (3 : Int32) ch) ?_
  show oG p e below _ s₁ (mkF m 0 #[.val (.ref b1), .val (.int 3), .val (.int ch)] [])
  obtain ⟨T0, X0, e0, st0⟩ := getS2 X0 hx hZ hown (host := "") (Or.inl (oW hw 93 rfl)) Via.refl e0 SA (g := (mkF m 0 #[.val (.ref b1), .val (.int 3), .val (.int ch)] [])) rfl (hb hby dpu3_0)
  refine oS st0 ?_
  show oG p e below _ T0 (mkF m 3 #[.val (.ref b1), .val (.int 3), .val (.int ch)] [(.int 1)])
  refine oS (fun t k => XS.ifYes X0.here hx rfl (pc0 := 3) (pc' := 28) rfl (hb hby dpu3_3) rfl ((if0 _ _).trans (feq (by decide : ¬ (1 : Int32) = 0)).2) (by decide) (by decide) k) ?_
  show oG p e below _ T0 (mkF m 28 #[.val (.ref b1), .val (.int 3), .val (.int ch)] [])
  refine oS (fun t k => XS.iloadN X0.here hx rfl (hb hby dpu3_28) rfl  k) ?_
  refine oS (fun t k => XS.iconst X0.here hx rfl (hb hby dpu3_29) k) ?_
  refine oS (fun t k => XS.ishl X0.here hx rfl (hb hby dpu3_30) rfl k) ?_
  show oG p e below _ T0 (mkF m 31 #[.val (.ref b1), .val (.int 3), .val (.int ch)] [(.int ((3 : Int32) <<< ((1 : Int32) &&& 31)))])
  rw [(by decide : ((3 : Int32) <<< ((1 : Int32) &&& 31)) = (6 : Int32))]
  show oG p e below _ T0 (mkF m 31 #[.val (.ref b1), .val (.int 3), .val (.int ch)] [(.int 6)])
  refine oS (fun t k => XS.istoreN X0.here hx rfl (hb hby dpu3_31) rfl (l' := #[.val (.ref b1), .val (.int 6), .val (.int ch)]) rfl k) ?_
  show oG p e below _ T0 (mkF m 32 #[.val (.ref b1), .val (.int 6), .val (.int ch)] [])
  refine oS (fun t k => XS.aloadN X0.here hx rfl (hb hby dpu3_32) rfl rfl k) ?_
  refine oS (fun t k => XS.iloadN X0.here hx rfl (hb hby dpu3_33) rfl  k) ?_
  show oG p e below _ T0 (mkF m 34 #[.val (.ref b1), .val (.int 6), .val (.int ch)] [(.int 6), (.ref b1)])
  refine oS (fun t k => XS.iinc X0.here hx rfl (hb hby dpu3_34) rfl (l' := #[.val (.ref b1), .val (.int ((6 : Int32) + (1 : Int32))), .val (.int ch)]) rfl k) ?_
  show oG p e below _ T0 (mkF m 37 #[.val (.ref b1), .val (.int ((6 : Int32) + (1 : Int32))), .val (.int ch)] [(.int 6), (.ref b1)])
  show oG p e below _ T0 (mkF m 37 #[.val (.ref b1), .val (.int 7), .val (.int ch)] [(.int 6), (.ref b1)])
  refine oS (fun t k => XS.iloadN X0.here hx rfl (hb hby dpu3_37) rfl  k) ?_
  show oG p e below _ T0 (mkF m 38 #[.val (.ref b1), .val (.int 7), .val (.int ch)] [(.int ch), (.int 6), (.ref b1)])
  obtain ⟨T38, X38, e38, st38⟩ := getS2 X0 hx hZ hown (host := "") (Or.inl (oW hw 94 rfl)) Via.refl e0 SH (g := (mkF m 38 #[.val (.ref b1), .val (.int 7), .val (.int ch)] [(.int ch), (.int 6), (.ref b1)])) rfl (hb hby dpu3_38)
  refine oS st38 ?_
  show oG p e below _ T38 (mkF m 41 #[.val (.ref b1), .val (.int 7), .val (.int ch)] [(.int 0), (.int ch), (.int 6), (.ref b1)])
  refine oS (fun t k => XS.ishr X38.here hx rfl (hb hby dpu3_41) rfl k) ?_
  show oG p e below _ T38 (mkF m 42 #[.val (.ref b1), .val (.int 7), .val (.int ch)] [(.int (ch >>> ((0 : Int32) &&& 31))), (.int 6), (.ref b1)])
  refine oS (fun t k => XS.i2b X38.here hx rfl (hb hby dpu3_42) rfl k) ?_
  show oG p e below _ T38 (mkF m 43 #[.val (.ref b1), .val (.int 7), .val (.int ch)] [(.int ((ch >>> ((0 : Int32) &&& 31)).toInt8.toInt32)), (.int 6), (.ref b1)])
  obtain ⟨cl43, Ar43, q43, S43, M43, H43, G43⟩ := V1
  have hin43 : ¬ ((6 : Int32) < 0 ∨ cl43.slots.size ≤ ((6 : Int32)).toNatClampNeg) := inb_of S43 ⟨by decide, hN⟩
  obtain ⟨T43, h43, X43, e43, W43, st43⟩ := stB X38 hx hZ e38 Ar43 (j := (6 : Int32)) hin43 (g := (mkF m 43 #[.val (.ref b1), .val (.int 7), .val (.int ch)] [(.int ((ch >>> ((0 : Int32) &&& 31)).toInt8.toInt32)), (.int 6), (.ref b1)])) rfl rfl (hb hby dpu3_43)
  refine oS st43 ?_
  have V43 := Arv.set Ar43 q43 S43 M43 H43 G43 (fits_nar_byte _) W43 6 rfl (by omega)
  have N43 := Fr.snoc X43 N0 gb
  show oG p e below _ T43 (mkF m 44 #[.val (.ref b1), .val (.int 7), .val (.int ch)] [])
  rw [own_narB, StrChars.shr0] at V43
  refine oS (fun t k => XS.aloadN X43.here hx rfl (hb hby dpu3_44) rfl rfl k) ?_
  refine oS (fun t k => XS.iloadN X43.here hx rfl (hb hby dpu3_45) rfl  k) ?_
  refine oS (fun t k => XS.iloadN X43.here hx rfl (hb hby dpu3_46) rfl  k) ?_
  show oG p e below _ T43 (mkF m 47 #[.val (.ref b1), .val (.int 7), .val (.int ch)] [(.int ch), (.int 7), (.ref b1)])
  obtain ⟨T47, X47, e47, st47⟩ := getS2 X43 hx hZ hown (host := "") (Or.inl (oW hw 95 rfl)) Via.refl e43 (SL.wr W43) (g := (mkF m 47 #[.val (.ref b1), .val (.int 7), .val (.int ch)] [(.int ch), (.int 7), (.ref b1)])) rfl (hb hby dpu3_47)
  refine oS st47 ?_
  show oG p e below _ T47 (mkF m 50 #[.val (.ref b1), .val (.int 7), .val (.int ch)] [(.int 8), (.int ch), (.int 7), (.ref b1)])
  refine oS (fun t k => XS.ishr X47.here hx rfl (hb hby dpu3_50) rfl k) ?_
  show oG p e below _ T47 (mkF m 51 #[.val (.ref b1), .val (.int 7), .val (.int ch)] [(.int (ch >>> ((8 : Int32) &&& 31))), (.int 7), (.ref b1)])
  refine oS (fun t k => XS.i2b X47.here hx rfl (hb hby dpu3_51) rfl k) ?_
  show oG p e below _ T47 (mkF m 52 #[.val (.ref b1), .val (.int 7), .val (.int ch)] [(.int ((ch >>> ((8 : Int32) &&& 31)).toInt8.toInt32)), (.int 7), (.ref b1)])
  obtain ⟨cl52, Ar52, q52, S52, M52, H52, G52⟩ := V43
  have hin52 : ¬ ((7 : Int32) < 0 ∨ cl52.slots.size ≤ ((7 : Int32)).toNatClampNeg) := inb_of S52 ⟨by decide, hM⟩
  obtain ⟨T52, h52, X52, e52, W52, st52⟩ := stB X47 hx hZ e47 Ar52 (j := (7 : Int32)) hin52 (g := (mkF m 52 #[.val (.ref b1), .val (.int 7), .val (.int ch)] [(.int ((ch >>> ((8 : Int32) &&& 31)).toInt8.toInt32)), (.int 7), (.ref b1)])) rfl rfl (hb hby dpu3_52)
  refine oS st52 ?_
  have V52 := Arv.set Ar52 q52 S52 M52 H52 G52 (fits_nar_byte _) W52 7 rfl (by rw [List.length_set]; omega)
  have N52 := Fr.snoc X52 N43 gb
  show oG p e below _ T52 (mkF m 53 #[.val (.ref b1), .val (.int 7), .val (.int ch)] [])
  rw [own_narB] at V52
  refine own_retV X52 hx hlk hret (hb hby dpu3_53) ?_ (by decide) (by decide)
  rw [e52]
  exact ⟨rfl, N52, ((Keep.refl h0 [b1]).wr W43 (Or.inl (List.mem_of_getElem? (i := 0) rfl))).wr W52 (Or.inl (List.mem_of_getElem? (i := 0) rfl)), V52⟩
theorem dnl1_0 : decode jdk_52_method_3_code 0 = .ok (.iload_n 0, 1) := by decide +kernel
theorem dnl1_1 : decode jdk_52_method_3_code 1 = .ok (.ifCond .ge 11, 3) := by decide +kernel
theorem dnl1_4 : decode jdk_52_method_3_code 4 = .ok (.new 17, 3) := by decide +kernel
theorem dnl1_7 : decode jdk_52_method_3_code 7 = .ok (.dup, 1) := by decide +kernel
theorem dnl1_8 : decode jdk_52_method_3_code 8 = .ok (.invokespecial 19, 3) := by decide +kernel
theorem dnl1_11 : decode jdk_52_method_3_code 11 = .ok (.athrow, 1) := by decide +kernel
theorem dnl1_12 : decode jdk_52_method_3_code 12 = .ok (.iload_n 0, 1) := by decide +kernel
theorem dnl1_13 : decode jdk_52_method_3_code 13 = .ok (.ldc 20, 2) := by decide +kernel
theorem dnl1_15 : decode jdk_52_method_3_code 15 = .ok (.if_icmp .lt 40, 3) := by decide +kernel
theorem dnl1_18 : decode jdk_52_method_3_code 18 = .ok (.new 21, 3) := by decide +kernel
theorem dnl1_21 : decode jdk_52_method_3_code 21 = .ok (.dup, 1) := by decide +kernel
theorem dnl1_22 : decode jdk_52_method_3_code 22 = .ok (.new 23, 3) := by decide +kernel
theorem dnl1_25 : decode jdk_52_method_3_code 25 = .ok (.dup, 1) := by decide +kernel
theorem dnl1_26 : decode jdk_52_method_3_code 26 = .ok (.invokespecial 25, 3) := by decide +kernel
theorem dnl1_29 : decode jdk_52_method_3_code 29 = .ok (.ldc 26, 2) := by decide +kernel
theorem dnl1_31 : decode jdk_52_method_3_code 31 = .ok (.invokevirtual 28, 3) := by decide +kernel
theorem dnl1_34 : decode jdk_52_method_3_code 34 = .ok (.iload_n 0, 1) := by decide +kernel
theorem dnl1_35 : decode jdk_52_method_3_code 35 = .ok (.invokevirtual 32, 3) := by decide +kernel
theorem dnl1_38 : decode jdk_52_method_3_code 38 = .ok (.ldc 35, 2) := by decide +kernel
theorem dnl1_40 : decode jdk_52_method_3_code 40 = .ok (.invokevirtual 28, 3) := by decide +kernel
theorem dnl1_43 : decode jdk_52_method_3_code 43 = .ok (.ldc 20, 2) := by decide +kernel
theorem dnl1_45 : decode jdk_52_method_3_code 45 = .ok (.invokevirtual 32, 3) := by decide +kernel
theorem dnl1_48 : decode jdk_52_method_3_code 48 = .ok (.invokevirtual 37, 3) := by decide +kernel
theorem dnl1_51 : decode jdk_52_method_3_code 51 = .ok (.invokespecial 41, 3) := by decide +kernel
theorem dnl1_54 : decode jdk_52_method_3_code 54 = .ok (.athrow, 1) := by decide +kernel
theorem dnl1_55 : decode jdk_52_method_3_code 55 = .ok (.iload_n 0, 1) := by decide +kernel
theorem dnl1_56 : decode jdk_52_method_3_code 56 = .ok (.iconst 1, 1) := by decide +kernel
theorem dnl1_57 : decode jdk_52_method_3_code 57 = .ok (.ishl, 1) := by decide +kernel
theorem dnl1_58 : decode jdk_52_method_3_code 58 = .ok (.ireturn, 1) := by decide +kernel
theorem efnl1 (m : MethodId) (x0 : Int32) : entryFrame m #[(.int x0)] 1 = mkF m 0 #[.val (.int x0)] [] := by first | (simp [entryFrame, mkF, argsToLocals, Value.category]; done) | rfl
set_option maxRecDepth 65536 in
set_option maxHeartbeats 40000000 in
theorem rm_nl1 (l : Launch) (Z : State) (a0 : Array Value) (hw : ∀ d ∈ tables_1, d.before a0 Z = true) (ws : List Jvm.Cond) (h0 : Heap) (n0 : Nat) (Z0 : n0 ≤ h0.size) :
    own_Met l Z ws (⟨"java/lang/StringUTF16", "newBytesLength", "(I)I"⟩ : MethodName) jdk_52_method_3_code 1 (some .int) ({ frames := 0, cells := 0, slots := 0, locals := 0 } : Room) #[(.int 1)] h0 (fun v h L => v = some (.int 2) ∧ Fr n0 L ∧ h = h0) := by
  refine own_body (plainFor_of_name pn_0) ?_
  intro p e s m below meth c s₁ hx hby hml hret hlk hown hnm hZ X0 e0
  have hml : c.maxLocals = 1 := hml
  have hown : s.vm.findClass "java/lang/StringUTF16" = some m.cls := hown
  have N0 := Fr.nil n0
  refine own_cast (efnl1 m (1 : Int32)) ?_
  show oG p e below _ s₁ (mkF m 0 #[.val (.int 1)] [])
  refine oS (fun t k => XS.iloadN X0.here hx rfl (hb hby dnl1_0) rfl  k) ?_
  show oG p e below _ s₁ (mkF m 1 #[.val (.int 1)] [(.int 1)])
  refine oS (fun t k => XS.ifYes X0.here hx rfl (pc0 := 1) (pc' := 12) rfl (hb hby dnl1_1) rfl ((if0 _ _).trans (flt (by decide : ¬ (1 : Int32) < 0)).2.1) (by decide) (by decide) k) ?_
  show oG p e below _ s₁ (mkF m 12 #[.val (.int 1)] [])
  refine oS (fun t k => XS.iloadN X0.here hx rfl (hb hby dnl1_12) rfl  k) ?_
  show oG p e below _ s₁ (mkF m 13 #[.val (.int 1)] [(.int 1)])
  refine oS (X0.ldcInt hx hown (mvT hZ (oW hw 89 rfl)) (g := (mkF m 13 #[.val (.int 1)] [(.int 1)])) rfl (hb hby dnl1_13)) ?_
  show oG p e below _ s₁ (mkF m 15 #[.val (.int 1)] [(.int 1073741823), (.int 1)])
  refine oS (fun t k => XS.icmpYes X0.here hx rfl (pc0 := 15) (pc' := 55) rfl (hb hby dnl1_15) rfl (tlt (by decide : (1 : Int32) < 1073741823)).1 (by decide) (by decide) k) ?_
  show oG p e below _ s₁ (mkF m 55 #[.val (.int 1)] [])
  refine oS (fun t k => XS.iloadN X0.here hx rfl (hb hby dnl1_55) rfl  k) ?_
  refine oS (fun t k => XS.iconst X0.here hx rfl (hb hby dnl1_56) k) ?_
  refine oS (fun t k => XS.ishl X0.here hx rfl (hb hby dnl1_57) rfl k) ?_
  show oG p e below _ s₁ (mkF m 58 #[.val (.int 1)] [(.int ((1 : Int32) <<< ((1 : Int32) &&& 31)))])
  rw [(by decide : ((1 : Int32) <<< ((1 : Int32) &&& 31)) = (2 : Int32))]
  show oG p e below _ s₁ (mkF m 58 #[.val (.int 1)] [(.int 2)])
  refine own_retI X0 hx hlk hret (hb hby dnl1_58) ?_ (by decide) (by decide)
  rw [e0]
  exact ⟨rfl, N0, rfl⟩
theorem dnf1_0 : decode jdk_52_method_2_code 0 = .ok (.iload_n 0, 1) := by decide +kernel
theorem dnf1_1 : decode jdk_52_method_2_code 1 = .ok (.invokestatic 11, 3) := by decide +kernel
theorem dnf1_4 : decode jdk_52_method_2_code 4 = .ok (.newarray .byte, 2) := by decide +kernel
theorem dnf1_6 : decode jdk_52_method_2_code 6 = .ok (.areturn, 1) := by decide +kernel
theorem efnf1 (m : MethodId) (x0 : Int32) : entryFrame m #[(.int x0)] 1 = mkF m 0 #[.val (.int x0)] [] := by first | (simp [entryFrame, mkF, argsToLocals, Value.category]; done) | rfl
theorem pd_6 : parseMethodDescriptor "(I)I" = some ⟨[.int], some .int⟩ := by decide +kernel
set_option maxRecDepth 65536 in
set_option maxHeartbeats 40000000 in
theorem rm_nf1 (l : Launch) (Z : State) (a0 : Array Value) (hw : ∀ d ∈ tables_1, d.before a0 Z = true) (ws : List Jvm.Cond) (h0 : Heap) (n0 : Nat) (Z0 : n0 ≤ h0.size) :
    own_Met l Z ws (⟨"java/lang/StringUTF16", "newBytesFor", "(I)[B"⟩ : MethodName) jdk_52_method_2_code 1 (some (.array .byte)) ({ frames := 1, cells := 1, slots := 2, locals := 12 } : Room) #[(.int 1)] h0 (fun v h L => ∃ kb, v = some (.ref h0.size) ∧ Fr n0 L ∧ Ext h0 h ∧ Arv Z h h0.size kb .byte (2 : Int32) [(.int 0), (.int 0)] (.int 0)) := by
  refine own_body (plainFor_of_name pn_0) ?_
  intro p e s m below meth c s₁ hx hby hml hret hlk hown hnm hZ X0 e0
  have hml : c.maxLocals = 1 := hml
  have hown : s.vm.findClass "java/lang/StringUTF16" = some m.cls := hown
  have N0 := Fr.nil n0
  refine own_cast (efnf1 m (1 : Int32)) ?_
  show oG p e below _ s₁ (mkF m 0 #[.val (.int 1)] [])
  refine oS (fun t k => XS.iloadN X0.here hx rfl (hb hby dnf1_0) rfl  k) ?_
  show oG p e below _ s₁ (mkF m 1 #[.val (.int 1)] [(.int 1)])
  refine own_callS X0 hx hZ (y := (⟨"java/lang/StringUTF16", "newBytesLength", "(I)I"⟩ : MethodName)) (W := 0) (kc := 0) (ks := 0) hown (oW hw 86 rfl) (oW hw 87 rfl) (oW hw 34 rfl) (oW hw 88 rfl) (own_back (W := 0) (rm_nl1 l Z a0 hw [] h0 n0 Z0) hZ (oW hw 88 rfl) (oW hw 34 rfl) (by decide) (by decide)) (by decide) (g := (mkF m 1 #[.val (.int 1)] [(.int 1)])) rfl (by rw [hml]; rfl) (argsL := [(.int 1)]) (rest := []) (lenOf pd_6 rfl) rfl (by show 2 * 0 + _ ≤ _; exact Nat.le_of_eq rfl) (hb hby dnf1_1) rfl e0 (by decide) (by decide) (fun v1 T1 L1 X1 hQ1 => ?_)
  obtain ⟨rfl, M1, e1⟩ := hQ1
  show oG p e below _ T1 (mkF m 4 #[.val (.int 1)] [(.int 2)])
  obtain ⟨T4, h4, k4, X4, e4, E4, A4, st4⟩ := newP X1 hx hZ (oW hw 15 rfl) e1 (g := (mkF m 4 #[.val (.int 1)] [(.int 2)])) rfl (hb hby dnf1_4) rfl (by decide) (cap := 2) (by decide) (by decide) (by decide) (by decide)
  obtain ⟨b4, g4⟩ : ∃ z, z = h0.size := ⟨_, rfl⟩
  rw [← g4] at A4 st4
  have V4 : Arv Z h4 b4 k4 .byte (2 : Int32) [(.int 0), (.int 0)] (.int 0) := (Arv.new A4 (by decide)).pad (pad_rep [] (.int 0) 2)
  refine oS st4 ?_
  show oG p e below _ T4 (mkF m 6 #[.val (.int 1)] [(.ref b4)])
  subst g4
  show oG p e below _ T4 (mkF m 6 #[.val (.int 1)] [(.ref h0.size)])
  refine own_retA X4 hx hlk hret rfl rfl (hb hby dnf1_6) ?_ (by decide) (by decide)
  rw [e4]
  exact ⟨k4, rfl, Fr.app N0 M1, E4, V4⟩
theorem dtb1_0 : decode jdk_52_method_14_code 0 = .ok (.iload_n 2, 1) := by decide +kernel
theorem dtb1_1 : decode jdk_52_method_14_code 1 = .ok (.invokestatic 107, 3) := by decide +kernel
theorem dtb1_4 : decode jdk_52_method_14_code 4 = .ok (.astore_n 3, 1) := by decide +kernel
theorem dtb1_5 : decode jdk_52_method_14_code 5 = .ok (.iconst 0, 1) := by decide +kernel
theorem dtb1_6 : decode jdk_52_method_14_code 6 = .ok (.istore 4, 2) := by decide +kernel
theorem dtb1_8 : decode jdk_52_method_14_code 8 = .ok (.iload 4, 2) := by decide +kernel
theorem dtb1_10 : decode jdk_52_method_14_code 10 = .ok (.iload_n 2, 1) := by decide +kernel
theorem dtb1_11 : decode jdk_52_method_14_code 11 = .ok (.if_icmp .ge 21, 3) := by decide +kernel
theorem dtb1_14 : decode jdk_52_method_14_code 14 = .ok (.aload_n 3, 1) := by decide +kernel
theorem dtb1_15 : decode jdk_52_method_14_code 15 = .ok (.iload 4, 2) := by decide +kernel
theorem dtb1_17 : decode jdk_52_method_14_code 17 = .ok (.aload_n 0, 1) := by decide +kernel
theorem dtb1_18 : decode jdk_52_method_14_code 18 = .ok (.iload_n 1, 1) := by decide +kernel
theorem dtb1_19 : decode jdk_52_method_14_code 19 = .ok (.caload, 1) := by decide +kernel
theorem dtb1_20 : decode jdk_52_method_14_code 20 = .ok (.invokestatic 111, 3) := by decide +kernel
theorem dtb1_23 : decode jdk_52_method_14_code 23 = .ok (.iinc 1 1, 3) := by decide +kernel
theorem dtb1_26 : decode jdk_52_method_14_code 26 = .ok (.iinc 4 1, 3) := by decide +kernel
theorem dtb1_29 : decode jdk_52_method_14_code 29 = .ok (.goto (-21), 3) := by decide +kernel
theorem dtb1_32 : decode jdk_52_method_14_code 32 = .ok (.aload_n 3, 1) := by decide +kernel
theorem dtb1_33 : decode jdk_52_method_14_code 33 = .ok (.areturn, 1) := by decide +kernel
theorem eftb1 (m : MethodId) (x0 : Addr) (x1 : Int32) (x2 : Int32) : entryFrame m #[(.ref x0), (.int x1), (.int x2)] 5 = mkF m 0 #[.val (.ref x0), .val (.int x1), .val (.int x2), .unset, .unset] [] := by first | (simp [entryFrame, mkF, argsToLocals, Value.category]; done) | rfl
theorem pd_7 : parseMethodDescriptor "(I)[B" = some ⟨[.int], some (.array .byte)⟩ := by decide +kernel
theorem pd_8 : parseMethodDescriptor "([BII)V" = some ⟨[(.array .byte), .int, .int], none⟩ := by decide +kernel
set_option maxRecDepth 65536 in
set_option maxHeartbeats 40000000 in
theorem rm_tb1 (l : Launch) (Z : State) (a0 : Array Value) (hw : ∀ d ∈ tables_1, d.before a0 Z = true) (ws : List Jvm.Cond) (s1 : Addr) (ks : ClassId) (ds : Value) (c0 : Int32) (h0 : Heap) (n0 : Nat) (Z0 : n0 ≤ h0.size) (V1 : Arv Z h0 s1 ks .char (1 : Int32) (([c0] : List Int32).map Value.int) ds) (SA : Sta Z h0 "java/lang/StringUTF16" "$assertionsDisabled" "Z" (.int 1)) (SH : Sta Z h0 "java/lang/StringUTF16" "HI_BYTE_SHIFT" "I" (.int 0)) (SL : Sta Z h0 "java/lang/StringUTF16" "LO_BYTE_SHIFT" "I" (.int 8)) :
    own_Met l Z ws (⟨"java/lang/StringUTF16", "toBytes", "([CII)[B"⟩ : MethodName) jdk_52_method_14_code 5 (some (.array .byte)) ({ frames := 2, cells := 1, slots := 2, locals := 30 } : Room) #[(.ref s1), (.int 0), (.int 1)] h0 (fun v h L => ∃ kb, v = some (.ref h0.size) ∧ Fr n0 L ∧ Keep h0 h [] ∧ Arv Z h h0.size kb .byte (2 : Int32) (StrChars.Road.wideBytes ([c0] : List Int32)) (.int 0)) := by
  refine own_body (plainFor_of_name pn_0) ?_
  intro p e s m below meth c s₁ hx hby hml hret hlk hown hnm hZ X0 e0
  have hml : c.maxLocals = 5 := hml
  have hown : s.vm.findClass "java/lang/StringUTF16" = some m.cls := hown
  have N0 := Fr.nil n0
  refine own_cast (eftb1 m s1 (0 : Int32) (1 : Int32)) ?_
  show oG p e below _ s₁ (mkF m 0 #[.val (.ref s1), .val (.int 0), .val (.int 1), .unset, .unset] [])
  refine oS (fun t k => XS.iloadN X0.here hx rfl (hb hby dtb1_0) rfl  k) ?_
  show oG p e below _ s₁ (mkF m 1 #[.val (.ref s1), .val (.int 0), .val (.int 1), .unset, .unset] [(.int 1)])
  refine own_callS X0 hx hZ (y := (⟨"java/lang/StringUTF16", "newBytesFor", "(I)[B"⟩ : MethodName)) (W := 0) (kc := 1) (ks := 2) hown (oW hw 83 rfl) (oW hw 84 rfl) (oW hw 34 rfl) (oW hw 85 rfl) (own_back (W := 0) (rm_nf1 l Z a0 hw [] h0 n0 Z0) hZ (oW hw 85 rfl) (oW hw 34 rfl) (by decide) (by decide)) (by decide) (g := (mkF m 1 #[.val (.ref s1), .val (.int 0), .val (.int 1), .unset, .unset] [(.int 1)])) rfl (by rw [hml]; rfl) (argsL := [(.int 1)]) (rest := []) (lenOf pd_7 rfl) rfl (by show 2 * 0 + _ ≤ _; exact Nat.le_of_eq rfl) (hb hby dtb1_1) rfl e0 (by decide) (by decide) (fun v1 T1 L1 X1 hQ1 => ?_)
  obtain ⟨kb, rfl, M1, E1, B1⟩ := hQ1
  have N1 := Fr.app N0 M1
  have KK1 : Keep h0 T1.heap [] := (Keep.refl h0 []).ext E1
  have Z1 : n0 ≤ T1.heap.size := Nat.le_trans Z0 E1.1
  have W1 := V1.ext E1
  have ne1 : s1 ≠ h0.size := Nat.ne_of_lt V1.lt
  have SA1 := SA.ext E1
  have SH1 := SH.ext E1
  have SL1 := SL.ext E1
  show oG p e below _ T1 (mkF m 4 #[.val (.ref s1), .val (.int 0), .val (.int 1), .unset, .unset] [(.ref h0.size)])
  refine oS (fun t k => XS.astoreN X1.here hx rfl (hb hby dtb1_4) rfl rfl (l' := #[.val (.ref s1), .val (.int 0), .val (.int 1), .val (.ref h0.size), .unset]) rfl k) ?_
  show oG p e below _ T1 (mkF m 5 #[.val (.ref s1), .val (.int 0), .val (.int 1), .val (.ref h0.size), .unset] [])
  refine oS (fun t k => XS.iconst X1.here hx rfl (hb hby dtb1_5) k) ?_
  refine oS (fun t k => XS.istore X1.here hx rfl (hb hby dtb1_6) rfl (l' := #[.val (.ref s1), .val (.int 0), .val (.int 1), .val (.ref h0.size), .val (.int 0)]) rfl k) ?_
  show oG p e below _ T1 (mkF m 8 #[.val (.ref s1), .val (.int 0), .val (.int 1), .val (.ref h0.size), .val (.int 0)] [])
  refine oS (fun t k => XS.iload X1.here hx rfl (hb hby dtb1_8) rfl  k) ?_
  refine oS (fun t k => XS.iloadN X1.here hx rfl (hb hby dtb1_10) rfl  k) ?_
  show oG p e below _ T1 (mkF m 11 #[.val (.ref s1), .val (.int 0), .val (.int 1), .val (.ref h0.size), .val (.int 0)] [(.int 1), (.int 0)])
  refine oS (fun t k => XS.icmpNo X1.here hx rfl (hb hby dtb1_11) rfl (tlt (by decide : (0 : Int32) < (1 : Int32))).2.1 k) ?_
  show oG p e below _ T1 (mkF m 14 #[.val (.ref s1), .val (.int 0), .val (.int 1), .val (.ref h0.size), .val (.int 0)] [])
  refine oS (fun t k => XS.aloadN X1.here hx rfl (hb hby dtb1_14) rfl rfl k) ?_
  refine oS (fun t k => XS.iload X1.here hx rfl (hb hby dtb1_15) rfl  k) ?_
  refine oS (fun t k => XS.aloadN X1.here hx rfl (hb hby dtb1_17) rfl rfl k) ?_
  refine oS (fun t k => XS.iloadN X1.here hx rfl (hb hby dtb1_18) rfl  k) ?_
  show oG p e below _ T1 (mkF m 19 #[.val (.ref s1), .val (.int 0), .val (.int 1), .val (.ref h0.size), .val (.int 0)] [(.int 0), (.ref s1), (.int 0), (.ref h0.size)])
  obtain ⟨cli0, Ari0, -, Si0, Mi0, Hi0, Gi0⟩ := id W1
  have hini0 : ¬ ((0 : Int32) < 0 ∨ cli0.slots.size ≤ ((0 : Int32)).toNatClampNeg) := inb_of Si0 ⟨by decide, by decide⟩
  refine oS (X1.caload hx (j := (0 : Int32)) (v := (.int c0)) Ari0.1 (State.isArrayOf_alike hZ.alike Ari0.2.1) Ari0.2.2 hini0 (Has.at Hi0 hini0 rfl) (g := (mkF m 19 #[.val (.ref s1), .val (.int 0), .val (.int 1), .val (.ref h0.size), .val (.int 0)] [(.int 0), (.ref s1), (.int 0), (.ref h0.size)])) rfl rfl (hb hby dtb1_19)) ?_
  show oG p e below _ T1 (mkF m 20 #[.val (.ref s1), .val (.int 0), .val (.int 1), .val (.ref h0.size), .val (.int 0)] [(.int c0), (.int 0), (.ref h0.size)])
  refine own_callS X1 hx hZ (y := (⟨"java/lang/StringUTF16", "putChar", "([BII)V"⟩ : MethodName)) (W := 0) (kc := 0) (ks := 0) hown (oW hw 90 rfl) (oW hw 91 rfl) (oW hw 34 rfl) (oW hw 92 rfl) (own_back (W := 0) (rm_pu0 l Z a0 hw [] h0.size c0 kb (2 : Int32) _ T1.heap n0 Z1 B1 Z0 (by decide) (by decide) (Nat.le_of_ble_eq_true rfl) SA1 SH1 SL1) hZ (oW hw 92 rfl) (oW hw 34 rfl) (by decide) (by decide)) (by decide) (g := (mkF m 20 #[.val (.ref s1), .val (.int 0), .val (.int 1), .val (.ref h0.size), .val (.int 0)] [(.int c0), (.int 0), (.ref h0.size)])) rfl (by rw [hml]; rfl) (argsL := [(.ref h0.size), (.int 0), (.int c0)]) (rest := []) (lenOf pd_8 rfl) rfl (by show 2 * 0 + _ ≤ _; exact Nat.le_of_eq rfl) (hb hby dtb1_20) rfl rfl (by decide) (by decide) (fun vq0 Tq0 Lq0 Xq0 hQq0 => ?_)
  obtain ⟨rfl, Mq0, Kq0, Bq0⟩ := hQq0
  have Nq0 := Fr.app N1 Mq0
  have KKq0 : Keep h0 Tq0.heap [] := KK1.trans Kq0 (allS (Or.inr (Nat.le_refl _)) all0)
  have Zq0 : n0 ≤ Tq0.heap.size := Nat.le_trans Z1 Kq0.1
  have Wq0 := W1.keep Kq0 (ninS ne1 nin0)
  have SAq0 := own_staK SA1 Kq0 (own_arvOld B1)
  have SHq0 := own_staK SH1 Kq0 (own_arvOld B1)
  have SLq0 := own_staK SL1 Kq0 (own_arvOld B1)
  show oG p e below _ Tq0 (mkF m 23 #[.val (.ref s1), .val (.int 0), .val (.int 1), .val (.ref h0.size), .val (.int 0)] [])
  refine oS (fun t k => XS.iinc Xq0.here hx rfl (hb hby dtb1_23) rfl (l' := #[.val (.ref s1), .val (.int ((0 : Int32) + (1 : Int32))), .val (.int 1), .val (.ref h0.size), .val (.int 0)]) rfl k) ?_
  show oG p e below _ Tq0 (mkF m 26 #[.val (.ref s1), .val (.int ((0 : Int32) + (1 : Int32))), .val (.int 1), .val (.ref h0.size), .val (.int 0)] [])
  show oG p e below _ Tq0 (mkF m 26 #[.val (.ref s1), .val (.int 1), .val (.int 1), .val (.ref h0.size), .val (.int 0)] [])
  refine oS (fun t k => XS.iinc Xq0.here hx rfl (hb hby dtb1_26) rfl (l' := #[.val (.ref s1), .val (.int 1), .val (.int 1), .val (.ref h0.size), .val (.int ((0 : Int32) + (1 : Int32)))]) rfl k) ?_
  show oG p e below _ Tq0 (mkF m 29 #[.val (.ref s1), .val (.int 1), .val (.int 1), .val (.ref h0.size), .val (.int ((0 : Int32) + (1 : Int32)))] [])
  show oG p e below _ Tq0 (mkF m 29 #[.val (.ref s1), .val (.int 1), .val (.int 1), .val (.ref h0.size), .val (.int 1)] [])
  refine oS (fun t k => XS.goto Xq0.here hx rfl (pc0 := 29) (pc' := 8) rfl (hb hby dtb1_29) (by decide) (by decide) k) ?_
  show oG p e below _ Tq0 (mkF m 8 #[.val (.ref s1), .val (.int 1), .val (.int 1), .val (.ref h0.size), .val (.int 1)] [])
  refine oS (fun t k => XS.iload Xq0.here hx rfl (hb hby dtb1_8) rfl  k) ?_
  refine oS (fun t k => XS.iloadN Xq0.here hx rfl (hb hby dtb1_10) rfl  k) ?_
  show oG p e below _ Tq0 (mkF m 11 #[.val (.ref s1), .val (.int 1), .val (.int 1), .val (.ref h0.size), .val (.int 1)] [(.int 1), (.int 1)])
  refine oS (fun t k => XS.icmpYes Xq0.here hx rfl (pc0 := 11) (pc' := 32) rfl (hb hby dtb1_11) rfl (flt (by decide : ¬ (1 : Int32) < (1 : Int32))).2.1 (by decide) (by decide) k) ?_
  show oG p e below _ Tq0 (mkF m 32 #[.val (.ref s1), .val (.int 1), .val (.int 1), .val (.ref h0.size), .val (.int 1)] [])
  refine oS (fun t k => XS.aloadN Xq0.here hx rfl (hb hby dtb1_32) rfl rfl k) ?_
  show oG p e below _ Tq0 (mkF m 33 #[.val (.ref s1), .val (.int 1), .val (.int 1), .val (.ref h0.size), .val (.int 1)] [(.ref h0.size)])
  refine own_retA Xq0 hx hlk hret rfl rfl (hb hby dtb1_33) ?_ (by decide) (by decide)
  exact ⟨kb, rfl, Nq0, KKq0, Bq0⟩
theorem dci1_0 : decode jdk_52_method_21_code 0 = .ok (.iconst 0, 1) := by decide +kernel
theorem dci1_1 : decode jdk_52_method_21_code 1 = .ok (.istore 5, 2) := by decide +kernel
theorem dci1_3 : decode jdk_52_method_21_code 3 = .ok (.iload 5, 2) := by decide +kernel
theorem dci1_5 : decode jdk_52_method_21_code 5 = .ok (.iload 4, 2) := by decide +kernel
theorem dci1_7 : decode jdk_52_method_21_code 7 = .ok (.if_icmp .ge 37, 3) := by decide +kernel
theorem dci1_10 : decode jdk_52_method_21_code 10 = .ok (.aload_n 0, 1) := by decide +kernel
theorem dci1_11 : decode jdk_52_method_21_code 11 = .ok (.iload_n 1, 1) := by decide +kernel
theorem dci1_12 : decode jdk_52_method_21_code 12 = .ok (.caload, 1) := by decide +kernel
theorem dci1_13 : decode jdk_52_method_21_code 13 = .ok (.istore 6, 2) := by decide +kernel
theorem dci1_15 : decode jdk_52_method_21_code 15 = .ok (.iload 6, 2) := by decide +kernel
theorem dci1_17 : decode jdk_52_method_21_code 17 = .ok (.sipush 255, 3) := by decide +kernel
theorem dci1_20 : decode jdk_52_method_21_code 20 = .ok (.if_icmp .le 6, 3) := by decide +kernel
theorem dci1_23 : decode jdk_52_method_21_code 23 = .ok (.iload 5, 2) := by decide +kernel
theorem dci1_25 : decode jdk_52_method_21_code 25 = .ok (.ireturn, 1) := by decide +kernel
theorem dci1_26 : decode jdk_52_method_21_code 26 = .ok (.aload_n 2, 1) := by decide +kernel
theorem dci1_27 : decode jdk_52_method_21_code 27 = .ok (.iload_n 3, 1) := by decide +kernel
theorem dci1_28 : decode jdk_52_method_21_code 28 = .ok (.iload 6, 2) := by decide +kernel
theorem dci1_30 : decode jdk_52_method_21_code 30 = .ok (.i2b, 1) := by decide +kernel
theorem dci1_31 : decode jdk_52_method_21_code 31 = .ok (.bastore, 1) := by decide +kernel
theorem dci1_32 : decode jdk_52_method_21_code 32 = .ok (.iinc 1 1, 3) := by decide +kernel
theorem dci1_35 : decode jdk_52_method_21_code 35 = .ok (.iinc 3 1, 3) := by decide +kernel
theorem dci1_38 : decode jdk_52_method_21_code 38 = .ok (.iinc 5 1, 3) := by decide +kernel
theorem dci1_41 : decode jdk_52_method_21_code 41 = .ok (.goto (-38), 3) := by decide +kernel
theorem dci1_44 : decode jdk_52_method_21_code 44 = .ok (.iload 4, 2) := by decide +kernel
theorem dci1_46 : decode jdk_52_method_21_code 46 = .ok (.ireturn, 1) := by decide +kernel
theorem efci1 (m : MethodId) (x0 : Addr) (x1 : Int32) (x2 : Addr) (x3 : Int32) (x4 : Int32) : entryFrame m #[(.ref x0), (.int x1), (.ref x2), (.int x3), (.int x4)] 7 = mkF m 0 #[.val (.ref x0), .val (.int x1), .val (.ref x2), .val (.int x3), .val (.int x4), .unset, .unset] [] := by first | (simp [entryFrame, mkF, argsToLocals, Value.category]; done) | rfl
set_option maxRecDepth 65536 in
set_option maxHeartbeats 40000000 in
theorem rm_ci1 (l : Launch) (Z : State) (a0 : Array Value) (hw : ∀ d ∈ tables_1, d.before a0 Z = true) (ws : List Jvm.Cond) (s1 : Addr) (d1 : Addr) (ks : ClassId) (kd : ClassId) (ds : Value) (c0 : Int32) (h0 : Heap) (n0 : Nat) (Z0 : n0 ≤ h0.size) (V1 : Arv Z h0 s1 ks .char (1 : Int32) (([c0] : List Int32).map Value.int) ds) (D1 : Arv Z h0 d1 kd .byte (1 : Int32) [(.int 0)] (.int 0)) (hne : s1 ≠ d1) (gd : n0 ≤ d1) (hbig : 255 < c0) :
    own_Met l Z ws (⟨"java/lang/StringUTF16", "compress", "([CI[BII)I"⟩ : MethodName) jdk_52_method_21_code 7 (some .int) ({ frames := 0, cells := 0, slots := 0, locals := 0 } : Room) #[(.ref s1), (.int 0), (.ref d1), (.int 0), (.int 1)] h0 (fun v h L => ∃ k : Int32, v = some (.int k) ∧ Fr n0 L ∧ Keep h0 h [d1] ∧ ((k = 0 ∧ 255 < c0))) := by
  refine own_body (plainFor_of_name pn_0) ?_
  intro p e s m below meth c s₁ hx hby hml hret hlk hown hnm hZ X0 e0
  have hml : c.maxLocals = 7 := hml
  have hown : s.vm.findClass "java/lang/StringUTF16" = some m.cls := hown
  have N0 := Fr.nil n0
  refine own_cast (efci1 m s1 (0 : Int32) d1 (0 : Int32) (1 : Int32)) ?_
  show oG p e below _ s₁ (mkF m 0 #[.val (.ref s1), .val (.int 0), .val (.ref d1), .val (.int 0), .val (.int 1), .unset, .unset] [])
  refine oS (fun t k => XS.iconst X0.here hx rfl (hb hby dci1_0) k) ?_
  refine oS (fun t k => XS.istore X0.here hx rfl (hb hby dci1_1) rfl (l' := #[.val (.ref s1), .val (.int 0), .val (.ref d1), .val (.int 0), .val (.int 1), .val (.int 0), .unset]) rfl k) ?_
  show oG p e below _ s₁ (mkF m 3 #[.val (.ref s1), .val (.int 0), .val (.ref d1), .val (.int 0), .val (.int 1), .val (.int 0), .unset] [])
  refine oS (fun t k => XS.iload X0.here hx rfl (hb hby dci1_3) rfl  k) ?_
  refine oS (fun t k => XS.iload X0.here hx rfl (hb hby dci1_5) rfl  k) ?_
  show oG p e below _ s₁ (mkF m 7 #[.val (.ref s1), .val (.int 0), .val (.ref d1), .val (.int 0), .val (.int 1), .val (.int 0), .unset] [(.int 1), (.int 0)])
  refine oS (fun t k => XS.icmpNo X0.here hx rfl (hb hby dci1_7) rfl (tlt (by decide : (0 : Int32) < (1 : Int32))).2.1 k) ?_
  show oG p e below _ s₁ (mkF m 10 #[.val (.ref s1), .val (.int 0), .val (.ref d1), .val (.int 0), .val (.int 1), .val (.int 0), .unset] [])
  refine oS (fun t k => XS.aloadN X0.here hx rfl (hb hby dci1_10) rfl rfl k) ?_
  refine oS (fun t k => XS.iloadN X0.here hx rfl (hb hby dci1_11) rfl  k) ?_
  show oG p e below _ s₁ (mkF m 12 #[.val (.ref s1), .val (.int 0), .val (.ref d1), .val (.int 0), .val (.int 1), .val (.int 0), .unset] [(.int 0), (.ref s1)])
  obtain ⟨cli0, Ari0, -, Si0, Mi0, Hi0, Gi0⟩ := id V1
  have hini0 : ¬ ((0 : Int32) < 0 ∨ cli0.slots.size ≤ ((0 : Int32)).toNatClampNeg) := inb_of Si0 ⟨by decide, by decide⟩
  refine oS (X0.caload hx (j := (0 : Int32)) (v := (.int c0)) (by rw [e0]; exact Ari0.1) (State.isArrayOf_alike hZ.alike Ari0.2.1) Ari0.2.2 hini0 (Has.at Hi0 hini0 rfl) (g := (mkF m 12 #[.val (.ref s1), .val (.int 0), .val (.ref d1), .val (.int 0), .val (.int 1), .val (.int 0), .unset] [(.int 0), (.ref s1)])) rfl rfl (hb hby dci1_12)) ?_
  show oG p e below _ s₁ (mkF m 13 #[.val (.ref s1), .val (.int 0), .val (.ref d1), .val (.int 0), .val (.int 1), .val (.int 0), .unset] [(.int c0)])
  refine oS (fun t k => XS.istore X0.here hx rfl (hb hby dci1_13) rfl (l' := #[.val (.ref s1), .val (.int 0), .val (.ref d1), .val (.int 0), .val (.int 1), .val (.int 0), .val (.int c0)]) rfl k) ?_
  show oG p e below _ s₁ (mkF m 15 #[.val (.ref s1), .val (.int 0), .val (.ref d1), .val (.int 0), .val (.int 1), .val (.int 0), .val (.int c0)] [])
  refine oS (fun t k => XS.iload X0.here hx rfl (hb hby dci1_15) rfl  k) ?_
  refine oS (fun t k => XS.sipush X0.here hx rfl (hb hby dci1_17) k) ?_
  show oG p e below _ s₁ (mkF m 20 #[.val (.ref s1), .val (.int 0), .val (.ref d1), .val (.int 0), .val (.int 1), .val (.int 0), .val (.int c0)] [(.int 255), (.int c0)])
  by_cases u0 : (255 : Int32) < c0
  · refine oS (fun t k => XS.icmpNo X0.here hx rfl (hb hby dci1_20) rfl (tlt u0).2.2.2 k) ?_
    show oG p e below _ s₁ (mkF m 23 #[.val (.ref s1), .val (.int 0), .val (.ref d1), .val (.int 0), .val (.int 1), .val (.int 0), .val (.int c0)] [])
    refine oS (fun t k => XS.iload X0.here hx rfl (hb hby dci1_23) rfl  k) ?_
    show oG p e below _ s₁ (mkF m 25 #[.val (.ref s1), .val (.int 0), .val (.ref d1), .val (.int 0), .val (.int 1), .val (.int 0), .val (.int c0)] [(.int 0)])
    refine own_retI X0 hx hlk hret (hb hby dci1_25) ?_ (by decide) (by decide)
    rw [e0]
    exact ⟨_, rfl, N0, (Keep.refl h0 [d1]), ⟨rfl, u0⟩⟩
  · refine oS (fun t k => XS.icmpYes X0.here hx rfl (pc0 := 20) (pc' := 26) rfl (hb hby dci1_20) rfl (flt u0).2.2.2 (by decide) (by decide) k) ?_
    show oG p e below _ s₁ (mkF m 26 #[.val (.ref s1), .val (.int 0), .val (.ref d1), .val (.int 0), .val (.int 1), .val (.int 0), .val (.int c0)] [])
    refine oS (fun t k => XS.aloadN X0.here hx rfl (hb hby dci1_26) rfl rfl k) ?_
    refine oS (fun t k => XS.iloadN X0.here hx rfl (hb hby dci1_27) rfl  k) ?_
    refine oS (fun t k => XS.iload X0.here hx rfl (hb hby dci1_28) rfl  k) ?_
    refine oS (fun t k => XS.i2b X0.here hx rfl (hb hby dci1_30) rfl k) ?_
    show oG p e below _ s₁ (mkF m 31 #[.val (.ref s1), .val (.int 0), .val (.ref d1), .val (.int 0), .val (.int 1), .val (.int 0), .val (.int c0)] [(.int (c0.toInt8.toInt32)), (.int 0), (.ref d1)])
    obtain ⟨cls0, Ars0, qs0, Ss0, Ms0, Hs0, Gs0⟩ := D1
    have hins0 : ¬ ((0 : Int32) < 0 ∨ cls0.slots.size ≤ ((0 : Int32)).toNatClampNeg) := inb_of Ss0 ⟨by decide, by decide⟩
    obtain ⟨Ts0, hs0, Xs0, es0, Ws0, sts0⟩ := stB X0 hx hZ e0 Ars0 (j := (0 : Int32)) hins0 (g := (mkF m 31 #[.val (.ref s1), .val (.int 0), .val (.ref d1), .val (.int 0), .val (.int 1), .val (.int 0), .val (.int c0)] [(.int (c0.toInt8.toInt32)), (.int 0), (.ref d1)])) rfl rfl (hb hby dci1_31)
    refine oS sts0 ?_
    have Vs0 := Arv.set Ars0 qs0 Ss0 Ms0 Hs0 Gs0 (fits_nar_byte _) Ws0 0 rfl (Nat.le_of_ble_eq_true rfl)
    have Ns0 := Fr.snoc Xs0 N0 gd
    show oG p e below _ Ts0 (mkF m 32 #[.val (.ref s1), .val (.int 0), .val (.ref d1), .val (.int 0), .val (.int 1), .val (.int 0), .val (.int c0)] [])
    have KS0 := (Keep.refl h0 [d1]).wr Ws0 (Or.inl (List.mem_of_getElem? (i := 0) rfl))
    have VS0 := V1.other Ws0 hne
    refine oS (fun t k => XS.iinc Xs0.here hx rfl (hb hby dci1_32) rfl (l' := #[.val (.ref s1), .val (.int ((0 : Int32) + (1 : Int32))), .val (.ref d1), .val (.int 0), .val (.int 1), .val (.int 0), .val (.int c0)]) rfl k) ?_
    show oG p e below _ Ts0 (mkF m 35 #[.val (.ref s1), .val (.int ((0 : Int32) + (1 : Int32))), .val (.ref d1), .val (.int 0), .val (.int 1), .val (.int 0), .val (.int c0)] [])
    show oG p e below _ Ts0 (mkF m 35 #[.val (.ref s1), .val (.int 1), .val (.ref d1), .val (.int 0), .val (.int 1), .val (.int 0), .val (.int c0)] [])
    refine oS (fun t k => XS.iinc Xs0.here hx rfl (hb hby dci1_35) rfl (l' := #[.val (.ref s1), .val (.int 1), .val (.ref d1), .val (.int ((0 : Int32) + (1 : Int32))), .val (.int 1), .val (.int 0), .val (.int c0)]) rfl k) ?_
    show oG p e below _ Ts0 (mkF m 38 #[.val (.ref s1), .val (.int 1), .val (.ref d1), .val (.int ((0 : Int32) + (1 : Int32))), .val (.int 1), .val (.int 0), .val (.int c0)] [])
    show oG p e below _ Ts0 (mkF m 38 #[.val (.ref s1), .val (.int 1), .val (.ref d1), .val (.int 1), .val (.int 1), .val (.int 0), .val (.int c0)] [])
    refine oS (fun t k => XS.iinc Xs0.here hx rfl (hb hby dci1_38) rfl (l' := #[.val (.ref s1), .val (.int 1), .val (.ref d1), .val (.int 1), .val (.int 1), .val (.int ((0 : Int32) + (1 : Int32))), .val (.int c0)]) rfl k) ?_
    show oG p e below _ Ts0 (mkF m 41 #[.val (.ref s1), .val (.int 1), .val (.ref d1), .val (.int 1), .val (.int 1), .val (.int ((0 : Int32) + (1 : Int32))), .val (.int c0)] [])
    show oG p e below _ Ts0 (mkF m 41 #[.val (.ref s1), .val (.int 1), .val (.ref d1), .val (.int 1), .val (.int 1), .val (.int 1), .val (.int c0)] [])
    refine oS (fun t k => XS.goto Xs0.here hx rfl (pc0 := 41) (pc' := 3) rfl (hb hby dci1_41) (by decide) (by decide) k) ?_
    show oG p e below _ Ts0 (mkF m 3 #[.val (.ref s1), .val (.int 1), .val (.ref d1), .val (.int 1), .val (.int 1), .val (.int 1), .val (.int c0)] [])
    refine oS (fun t k => XS.iload Xs0.here hx rfl (hb hby dci1_3) rfl  k) ?_
    refine oS (fun t k => XS.iload Xs0.here hx rfl (hb hby dci1_5) rfl  k) ?_
    show oG p e below _ Ts0 (mkF m 7 #[.val (.ref s1), .val (.int 1), .val (.ref d1), .val (.int 1), .val (.int 1), .val (.int 1), .val (.int c0)] [(.int 1), (.int 1)])
    exact absurd hbig (by simp [u0])
theorem dcm1_0 : decode jdk_52_method_16_code 0 = .ok (.iload_n 2, 1) := by decide +kernel
theorem dcm1_1 : decode jdk_52_method_16_code 1 = .ok (.newarray .byte, 2) := by decide +kernel
theorem dcm1_3 : decode jdk_52_method_16_code 3 = .ok (.astore_n 3, 1) := by decide +kernel
theorem dcm1_4 : decode jdk_52_method_16_code 4 = .ok (.aload_n 0, 1) := by decide +kernel
theorem dcm1_5 : decode jdk_52_method_16_code 5 = .ok (.iload_n 1, 1) := by decide +kernel
theorem dcm1_6 : decode jdk_52_method_16_code 6 = .ok (.aload_n 3, 1) := by decide +kernel
theorem dcm1_7 : decode jdk_52_method_16_code 7 = .ok (.iconst 0, 1) := by decide +kernel
theorem dcm1_8 : decode jdk_52_method_16_code 8 = .ok (.iload_n 2, 1) := by decide +kernel
theorem dcm1_9 : decode jdk_52_method_16_code 9 = .ok (.invokestatic 115, 3) := by decide +kernel
theorem dcm1_12 : decode jdk_52_method_16_code 12 = .ok (.istore 4, 2) := by decide +kernel
theorem dcm1_14 : decode jdk_52_method_16_code 14 = .ok (.iload 4, 2) := by decide +kernel
theorem dcm1_16 : decode jdk_52_method_16_code 16 = .ok (.iload_n 2, 1) := by decide +kernel
theorem dcm1_17 : decode jdk_52_method_16_code 17 = .ok (.if_icmp .eq 40, 3) := by decide +kernel
theorem dcm1_20 : decode jdk_52_method_16_code 20 = .ok (.aload_n 0, 1) := by decide +kernel
theorem dcm1_21 : decode jdk_52_method_16_code 21 = .ok (.iload_n 1, 1) := by decide +kernel
theorem dcm1_22 : decode jdk_52_method_16_code 22 = .ok (.iload_n 2, 1) := by decide +kernel
theorem dcm1_23 : decode jdk_52_method_16_code 23 = .ok (.invokestatic 119, 3) := by decide +kernel
theorem dcm1_26 : decode jdk_52_method_16_code 26 = .ok (.astore 5, 2) := by decide +kernel
theorem dcm1_28 : decode jdk_52_method_16_code 28 = .ok (.aload 5, 2) := by decide +kernel
theorem dcm1_30 : decode jdk_52_method_16_code 30 = .ok (.iload 4, 2) := by decide +kernel
theorem dcm1_32 : decode jdk_52_method_16_code 32 = .ok (.invokestatic 71, 3) := by decide +kernel
theorem dcm1_35 : decode jdk_52_method_16_code 35 = .ok (.sipush 255, 3) := by decide +kernel
theorem dcm1_38 : decode jdk_52_method_16_code 38 = .ok (.if_icmp .gt 16, 3) := by decide +kernel
theorem dcm1_41 : decode jdk_52_method_16_code 41 = .ok (.aload 5, 2) := by decide +kernel
theorem dcm1_43 : decode jdk_52_method_16_code 43 = .ok (.iconst 0, 1) := by decide +kernel
theorem dcm1_44 : decode jdk_52_method_16_code 44 = .ok (.aload_n 3, 1) := by decide +kernel
theorem dcm1_45 : decode jdk_52_method_16_code 45 = .ok (.iconst 0, 1) := by decide +kernel
theorem dcm1_46 : decode jdk_52_method_16_code 46 = .ok (.iload_n 2, 1) := by decide +kernel
theorem dcm1_47 : decode jdk_52_method_16_code 47 = .ok (.invokestatic 123, 3) := by decide +kernel
theorem dcm1_50 : decode jdk_52_method_16_code 50 = .ok (.iload_n 2, 1) := by decide +kernel
theorem dcm1_51 : decode jdk_52_method_16_code 51 = .ok (.if_icmp .eq 6, 3) := by decide +kernel
theorem dcm1_54 : decode jdk_52_method_16_code 54 = .ok (.aload 5, 2) := by decide +kernel
theorem dcm1_56 : decode jdk_52_method_16_code 56 = .ok (.areturn, 1) := by decide +kernel
theorem dcm1_57 : decode jdk_52_method_16_code 57 = .ok (.aload_n 3, 1) := by decide +kernel
theorem dcm1_58 : decode jdk_52_method_16_code 58 = .ok (.areturn, 1) := by decide +kernel
theorem efcm1 (m : MethodId) (x0 : Addr) (x1 : Int32) (x2 : Int32) : entryFrame m #[(.ref x0), (.int x1), (.int x2)] 6 = mkF m 0 #[.val (.ref x0), .val (.int x1), .val (.int x2), .unset, .unset, .unset] [] := by first | (simp [entryFrame, mkF, argsToLocals, Value.category]; done) | rfl
theorem pd_9 : parseMethodDescriptor "([CI[BII)I" = some ⟨[(.array .char), .int, (.array .byte), .int, .int], some .int⟩ := by decide +kernel
theorem pd_10 : parseMethodDescriptor "([CII)[B" = some ⟨[(.array .char), .int, .int], some (.array .byte)⟩ := by decide +kernel
set_option maxRecDepth 65536 in
set_option maxHeartbeats 40000000 in
theorem rm_cm1 (l : Launch) (Z : State) (a0 : Array Value) (hw : ∀ d ∈ tables_1, d.before a0 Z = true) (ws : List Jvm.Cond) (s1 : Addr) (ks : ClassId) (ds : Value) (c0 : Int32) (h0 : Heap) (n0 : Nat) (Z0 : n0 ≤ h0.size) (V1 : Arv Z h0 s1 ks .char (1 : Int32) (([c0] : List Int32).map Value.int) ds) (hbig : 255 < c0) (hr : ∀ c ∈ ([c0] : List Int32), ¬ c < 0 ∧ ¬ (65535 : Int32) < c) (SA : Sta Z h0 "java/lang/StringUTF16" "$assertionsDisabled" "Z" (.int 1)) (SH : Sta Z h0 "java/lang/StringUTF16" "HI_BYTE_SHIFT" "I" (.int 0)) (SL : Sta Z h0 "java/lang/StringUTF16" "LO_BYTE_SHIFT" "I" (.int 8)) :
    own_Met l Z ws (⟨"java/lang/StringUTF16", "compress", "([CII)[B"⟩ : MethodName) jdk_52_method_16_code 6 (some (.array .byte)) ({ frames := 3, cells := 2, slots := 3, locals := 50 } : Room) #[(.ref s1), (.int 0), (.int 1)] h0 (fun v h L => ∃ (b : Addr) (kb : ClassId), v = some (.ref b) ∧ Fr n0 L ∧ Keep h0 h [] ∧ n0 ≤ b ∧ h0.size ≤ b ∧ Arv Z h b kb .byte (2 : Int32) (StrChars.Road.wideBytes ([c0] : List Int32)) (.int 0)) := by
  refine own_body (plainFor_of_name pn_0) ?_
  intro p e s m below meth c s₁ hx hby hml hret hlk hown hnm hZ X0 e0
  have hml : c.maxLocals = 6 := hml
  have hown : s.vm.findClass "java/lang/StringUTF16" = some m.cls := hown
  have N0 := Fr.nil n0
  refine own_cast (efcm1 m s1 (0 : Int32) (1 : Int32)) ?_
  show oG p e below _ s₁ (mkF m 0 #[.val (.ref s1), .val (.int 0), .val (.int 1), .unset, .unset, .unset] [])
  refine oS (fun t k => XS.iloadN X0.here hx rfl (hb hby dcm1_0) rfl  k) ?_
  show oG p e below _ s₁ (mkF m 1 #[.val (.ref s1), .val (.int 0), .val (.int 1), .unset, .unset, .unset] [(.int 1)])
  obtain ⟨T1, h1, k1, X1, e1, E1, A1, st1⟩ := newP X0 hx hZ (oW hw 15 rfl) e0 (g := (mkF m 1 #[.val (.ref s1), .val (.int 0), .val (.int 1), .unset, .unset, .unset] [(.int 1)])) rfl (hb hby dcm1_1) rfl (by decide) (cap := 1) (by decide) (by decide) (by decide) (by decide)
  obtain ⟨b1, g1⟩ : ∃ z, z = h0.size := ⟨_, rfl⟩
  rw [← g1] at A1 st1
  have V1' : Arv Z h1 b1 k1 .byte (1 : Int32) [(.int 0)] (.int 0) := (Arv.new A1 (by decide)).pad (pad_rep [] (.int 0) 1)
  refine oS st1 ?_
  show oG p e below _ T1 (mkF m 3 #[.val (.ref s1), .val (.int 0), .val (.int 1), .unset, .unset, .unset] [(.ref b1)])
  have Z1 : n0 ≤ h1.size := Nat.le_trans Z0 E1.1
  have g0 : n0 ≤ b1 := Nat.le_trans Z0 (Nat.le_of_eq g1.symm)
  have ne : s1 ≠ b1 := Nat.ne_of_lt (Nat.lt_of_lt_of_le V1.lt (Nat.le_of_eq g1.symm))
  have zb : h0.size ≤ b1 := Nat.le_of_eq g1.symm
  refine oS (fun t k => XS.astoreN X1.here hx rfl (hb hby dcm1_3) rfl rfl (l' := #[.val (.ref s1), .val (.int 0), .val (.int 1), .val (.ref b1), .unset, .unset]) rfl k) ?_
  show oG p e below _ T1 (mkF m 4 #[.val (.ref s1), .val (.int 0), .val (.int 1), .val (.ref b1), .unset, .unset] [])
  refine oS (fun t k => XS.aloadN X1.here hx rfl (hb hby dcm1_4) rfl rfl k) ?_
  refine oS (fun t k => XS.iloadN X1.here hx rfl (hb hby dcm1_5) rfl  k) ?_
  refine oS (fun t k => XS.aloadN X1.here hx rfl (hb hby dcm1_6) rfl rfl k) ?_
  refine oS (fun t k => XS.iconst X1.here hx rfl (hb hby dcm1_7) k) ?_
  refine oS (fun t k => XS.iloadN X1.here hx rfl (hb hby dcm1_8) rfl  k) ?_
  show oG p e below _ T1 (mkF m 9 #[.val (.ref s1), .val (.int 0), .val (.int 1), .val (.ref b1), .unset, .unset] [(.int 1), (.int 0), (.ref b1), (.int 0), (.ref s1)])
  refine own_callS X1 hx hZ (y := (⟨"java/lang/StringUTF16", "compress", "([CI[BII)I"⟩ : MethodName)) (W := 0) (kc := 0) (ks := 0) hown (oW hw 36 rfl) (oW hw 37 rfl) (oW hw 34 rfl) (oW hw 38 rfl) (own_back (W := 0) (rm_ci1 l Z a0 hw [] s1 b1 ks k1 ds c0 h1 n0 Z1 (V1.ext E1) V1' ne g0 hbig) hZ (oW hw 38 rfl) (oW hw 34 rfl) (by decide) (by decide)) (by decide) (g := (mkF m 9 #[.val (.ref s1), .val (.int 0), .val (.int 1), .val (.ref b1), .unset, .unset] [(.int 1), (.int 0), (.ref b1), (.int 0), (.ref s1)])) rfl (by rw [hml]; rfl) (argsL := [(.ref s1), (.int 0), (.ref b1), (.int 0), (.int 1)]) (rest := []) (lenOf pd_9 rfl) rfl (by show 2 * 0 + _ ≤ _; exact Nat.le_of_eq rfl) (hb hby dcm1_9) rfl e1 (by decide) (by decide) (fun v9 T9 L9 X9 hQ9 => ?_)
  obtain ⟨kx, rfl, M9, K9, hk⟩ := hQ9
  have N9 := Fr.app N0 M9
  have KK9 : Keep h0 T9.heap [] := ((Keep.refl h0 []).ext E1).trans K9 (allS (Or.inr zb) all0)
  have Z9 : n0 ≤ T9.heap.size := Nat.le_trans Z1 K9.1
  have V9 := V1.keep KK9 nin0
  have SA9 := own_staK0 SA KK9
  have SH9 := own_staK0 SH KK9
  have SL9 := own_staK0 SL KK9
  show oG p e below _ T9 (mkF m 12 #[.val (.ref s1), .val (.int 0), .val (.int 1), .val (.ref b1), .unset, .unset] [(.int kx)])
  refine oS (fun t k => XS.istore X9.here hx rfl (hb hby dcm1_12) rfl (l' := #[.val (.ref s1), .val (.int 0), .val (.int 1), .val (.ref b1), .val (.int kx), .unset]) rfl k) ?_
  show oG p e below _ T9 (mkF m 14 #[.val (.ref s1), .val (.int 0), .val (.int 1), .val (.ref b1), .val (.int kx), .unset] [])
  refine oS (fun t k => XS.iload X9.here hx rfl (hb hby dcm1_14) rfl  k) ?_
  refine oS (fun t k => XS.iloadN X9.here hx rfl (hb hby dcm1_16) rfl  k) ?_
  show oG p e below _ T9 (mkF m 17 #[.val (.ref s1), .val (.int 0), .val (.int 1), .val (.ref b1), .val (.int kx), .unset] [(.int 1), (.int kx)])
  rcases hk with ⟨rfl, hk⟩
  · show oG p e below _ T9 (mkF m 17 #[.val (.ref s1), .val (.int 0), .val (.int 1), .val (.ref b1), .val (.int 0), .unset] [(.int 1), (.int 0)])
    refine oS (fun t k => XS.icmpNo X9.here hx rfl (hb hby dcm1_17) rfl (feq (by decide : ¬ (0 : Int32) = (1 : Int32))).1 k) ?_
    show oG p e below _ T9 (mkF m 20 #[.val (.ref s1), .val (.int 0), .val (.int 1), .val (.ref b1), .val (.int 0), .unset] [])
    refine oS (fun t k => XS.aloadN X9.here hx rfl (hb hby dcm1_20) rfl rfl k) ?_
    refine oS (fun t k => XS.iloadN X9.here hx rfl (hb hby dcm1_21) rfl  k) ?_
    refine oS (fun t k => XS.iloadN X9.here hx rfl (hb hby dcm1_22) rfl  k) ?_
    show oG p e below _ T9 (mkF m 23 #[.val (.ref s1), .val (.int 0), .val (.int 1), .val (.ref b1), .val (.int 0), .unset] [(.int 1), (.int 0), (.ref s1)])
    refine own_callS X9 hx hZ (y := (⟨"java/lang/StringUTF16", "toBytes", "([CII)[B"⟩ : MethodName)) (W := 0) (kc := 1) (ks := 2) hown (oW hw 80 rfl) (oW hw 81 rfl) (oW hw 34 rfl) (oW hw 82 rfl) (own_back (W := 0) (rm_tb1 l Z a0 hw [] s1 ks ds c0 T9.heap n0 Z9 V9 SA9 SH9 SL9) hZ (oW hw 82 rfl) (oW hw 34 rfl) (by decide) (by decide)) (by decide) (g := (mkF m 23 #[.val (.ref s1), .val (.int 0), .val (.int 1), .val (.ref b1), .val (.int 0), .unset] [(.int 1), (.int 0), (.ref s1)])) rfl (by rw [hml]; rfl) (argsL := [(.ref s1), (.int 0), (.int 1)]) (rest := []) (lenOf pd_10 rfl) rfl (by show 2 * 0 + _ ≤ _; exact Nat.le_of_eq rfl) (hb hby dcm1_23) rfl rfl (by decide) (by decide) (fun v23 T23 L23 X23 hQ23 => ?_)
    obtain ⟨kb, rfl, M23, K23, B23⟩ := hQ23
    have N23 := Fr.app N9 M23
    have KK23 : Keep h0 T23.heap [] := KK9.trans K23 all0
    have Z23 : n0 ≤ T23.heap.size := Nat.le_trans Z9 K23.1
    have SA23 := own_staK0 SA9 K23
    have SH23 := own_staK0 SH9 K23
    have SL23 := own_staK0 SL9 K23
    show oG p e below _ T23 (mkF m 26 #[.val (.ref s1), .val (.int 0), .val (.int 1), .val (.ref b1), .val (.int 0), .unset] [(.ref T9.heap.size)])
    refine oS (fun t k => XS.astore X23.here hx rfl (hb hby dcm1_26) rfl rfl (l' := #[.val (.ref s1), .val (.int 0), .val (.int 1), .val (.ref b1), .val (.int 0), .val (.ref T9.heap.size)]) rfl k) ?_
    show oG p e below _ T23 (mkF m 28 #[.val (.ref s1), .val (.int 0), .val (.int 1), .val (.ref b1), .val (.int 0), .val (.ref T9.heap.size)] [])
    refine oS (fun t k => XS.aload X23.here hx rfl (hb hby dcm1_28) rfl rfl k) ?_
    refine oS (fun t k => XS.iload X23.here hx rfl (hb hby dcm1_30) rfl  k) ?_
    show oG p e below _ T23 (mkF m 32 #[.val (.ref s1), .val (.int 0), .val (.int 1), .val (.ref b1), .val (.int 0), .val (.ref T9.heap.size)] [(.int 0), (.ref T9.heap.size)])
    refine own_callS X23 hx hZ (y := (⟨"java/lang/StringUTF16", "getChar", "([BI)C"⟩ : MethodName)) (W := 0) (kc := 0) (ks := 0) hown (oW hw 96 rfl) (oW hw 97 rfl) (oW hw 34 rfl) (oW hw 98 rfl) (own_back (W := 0) (rm_gc l Z a0 hw [] T9.heap.size 0 kb ([c0] : List Int32) T23.heap n0 Z23 B23 (Nat.le_of_ble_eq_true rfl) hr (Nat.le_of_ble_eq_true rfl) SA23 SH23 SL23) hZ (oW hw 98 rfl) (oW hw 34 rfl) (by decide) (by decide)) (by decide) (g := (mkF m 32 #[.val (.ref s1), .val (.int 0), .val (.int 1), .val (.ref b1), .val (.int 0), .val (.ref T9.heap.size)] [(.int 0), (.ref T9.heap.size)])) rfl (by rw [hml]; rfl) (argsL := [(.ref T9.heap.size), (.int 0)]) (rest := []) (lenOf pd_4 rfl) rfl (by show 2 * 0 + _ ≤ _; exact Nat.le_of_eq rfl) (hb hby dcm1_32) rfl rfl (by decide) (by decide) (fun v32 T32 L32 X32 hQ32 => ?_)
    obtain ⟨rfl, M32, e32⟩ := hQ32
    have N32 := Fr.app N23 M32
    show oG p e below _ T32 (mkF m 35 #[.val (.ref s1), .val (.int 0), .val (.int 1), .val (.ref b1), .val (.int 0), .val (.ref T9.heap.size)] [(.int c0)])
    refine oS (fun t k => XS.sipush X32.here hx rfl (hb hby dcm1_35) k) ?_
    show oG p e below _ T32 (mkF m 38 #[.val (.ref s1), .val (.int 0), .val (.int 1), .val (.ref b1), .val (.int 0), .val (.ref T9.heap.size)] [(.int 255), (.int c0)])
    refine oS (fun t k => XS.icmpYes X32.here hx rfl (pc0 := 38) (pc' := 54) rfl (hb hby dcm1_38) rfl (tlt hk).2.2.1 (by decide) (by decide) k) ?_
    show oG p e below _ T32 (mkF m 54 #[.val (.ref s1), .val (.int 0), .val (.int 1), .val (.ref b1), .val (.int 0), .val (.ref T9.heap.size)] [])
    refine oS (fun t k => XS.aload X32.here hx rfl (hb hby dcm1_54) rfl rfl k) ?_
    show oG p e below _ T32 (mkF m 56 #[.val (.ref s1), .val (.int 0), .val (.int 1), .val (.ref b1), .val (.int 0), .val (.ref T9.heap.size)] [(.ref T9.heap.size)])
    refine own_retA X32 hx hlk hret rfl rfl (hb hby dcm1_56) ?_ (by decide) (by decide)
    rw [e32]
    exact ⟨_, kb, rfl, N32, KK23, Z9, KK9.1, B23⟩
theorem dcf1_0 : decode jdk_52_method_15_code 0 = .ok (.iload_n 1, 1) := by decide +kernel
theorem dcf1_1 : decode jdk_52_method_15_code 1 = .ok (.aload_n 0, 1) := by decide +kernel
theorem dcf1_2 : decode jdk_52_method_15_code 2 = .ok (.arraylength, 1) := by decide +kernel
theorem dcf1_3 : decode jdk_52_method_15_code 3 = .ok (.isub, 1) := by decide +kernel
theorem dcf1_4 : decode jdk_52_method_15_code 4 = .ok (.bipush 31, 2) := by decide +kernel
theorem dcf1_6 : decode jdk_52_method_15_code 6 = .ok (.iushr, 1) := by decide +kernel
theorem dcf1_7 : decode jdk_52_method_15_code 7 = .ok (.i2b, 1) := by decide +kernel
theorem dcf1_8 : decode jdk_52_method_15_code 8 = .ok (.ireturn, 1) := by decide +kernel
theorem efcf1 (m : MethodId) (x0 : Addr) (x1 : Int32) : entryFrame m #[(.ref x0), (.int x1)] 2 = mkF m 0 #[.val (.ref x0), .val (.int x1)] [] := by first | (simp [entryFrame, mkF, argsToLocals, Value.category]; done) | rfl
set_option maxRecDepth 65536 in
set_option maxHeartbeats 40000000 in
theorem rm_cf1 (l : Launch) (Z : State) (a0 : Array Value) (hw : ∀ d ∈ tables_1, d.before a0 Z = true) (ws : List Jvm.Cond) (b1 : Addr) (kb : ClassId) (vs : List Value) (d : Value) (h0 : Heap) (n0 : Nat) (Z0 : n0 ≤ h0.size) (V1 : Arv Z h0 b1 kb .byte (2 : Int32) vs d) :
    own_Met l Z ws (⟨"java/lang/StringUTF16", "coderFromArrayLen", "([BI)B"⟩ : MethodName) jdk_52_method_15_code 2 (some .byte) ({ frames := 0, cells := 0, slots := 0, locals := 0 } : Room) #[(.ref b1), (.int 1)] h0 (fun v h L => v = some (.int 1) ∧ Fr n0 L ∧ h = h0) := by
  refine own_body (plainFor_of_name pn_0) ?_
  intro p e s m below meth c s₁ hx hby hml hret hlk hown hnm hZ X0 e0
  have hml : c.maxLocals = 2 := hml
  have hown : s.vm.findClass "java/lang/StringUTF16" = some m.cls := hown
  have N0 := Fr.nil n0
  refine own_cast (efcf1 m b1 (1 : Int32)) ?_
  show oG p e below _ s₁ (mkF m 0 #[.val (.ref b1), .val (.int 1)] [])
  refine oS (fun t k => XS.iloadN X0.here hx rfl (hb hby dcf1_0) rfl  k) ?_
  refine oS (fun t k => XS.aloadN X0.here hx rfl (hb hby dcf1_1) rfl rfl k) ?_
  show oG p e below _ s₁ (mkF m 2 #[.val (.ref b1), .val (.int 1)] [(.ref b1), (.int 1)])
  obtain ⟨cl2, Ar2, -, S2, M2, -, -⟩ := id V1
  refine oS (X0.arraylength hx (by rw [e0]; exact Ar2.1) (State.isArrayOf_alike hZ.alike Ar2.2.1) (g := (mkF m 2 #[.val (.ref b1), .val (.int 1)] [(.ref b1), (.int 1)])) rfl rfl (hb hby dcf1_2)) ?_
  rw [len_of S2 M2]
  show oG p e below _ s₁ (mkF m 3 #[.val (.ref b1), .val (.int 1)] [(.int 2), (.int 1)])
  refine oS (fun t k => XS.isub X0.here hx rfl (hb hby dcf1_3) rfl k) ?_
  show oG p e below _ s₁ (mkF m 4 #[.val (.ref b1), .val (.int 1)] [(.int ((1 : Int32) - (2 : Int32)))])
  refine oS (fun t k => XS.bipush X0.here hx rfl (hb hby dcf1_4) k) ?_
  refine oS (fun t k => XS.iushr X0.here hx rfl (hb hby dcf1_6) rfl k) ?_
  show oG p e below _ s₁ (mkF m 7 #[.val (.ref b1), .val (.int 1)] [(.int ((((1 : Int32) - (2 : Int32)).toUInt32 >>> ((31 : Int32) &&& 31).toUInt32).toInt32))])
  refine oS (fun t k => XS.i2b X0.here hx rfl (hb hby dcf1_7) rfl k) ?_
  show oG p e below _ s₁ (mkF m 8 #[.val (.ref b1), .val (.int 1)] [(.int (((((1 : Int32) - (2 : Int32)).toUInt32 >>> ((31 : Int32) &&& 31).toUInt32).toInt32).toInt8.toInt32))])
  rw [(by decide : (((((1 : Int32) - (2 : Int32)).toUInt32 >>> ((31 : Int32) &&& 31).toUInt32).toInt32).toInt8.toInt32) = (1 : Int32))]
  show oG p e below _ s₁ (mkF m 8 #[.val (.ref b1), .val (.int 1)] [(.int 1)])
  refine own_retN (t := .byte) X0 hx hlk hret (by simp) (hb hby dcf1_8) ?_ (by decide) (by decide)
  rw [e0]
  exact ⟨rfl, N0, rfl⟩
theorem own_big1 {c0 : Int32} (h : 255 < c0) : ∃ c ∈ ([c0] : List Int32), 255 < c := by
  simp only [List.mem_cons, List.not_mem_nil, or_false]
  rcases h with h
  · exact ⟨c0, rfl, h⟩
theorem dsv1_0 : decode jdk_42_method_149_code 0 = .ok (.aload_n 0, 1) := by decide +kernel
theorem dsv1_1 : decode jdk_42_method_149_code 1 = .ok (.invokespecial 1, 3) := by decide +kernel
theorem dsv1_4 : decode jdk_42_method_149_code 4 = .ok (.iload_n 3, 1) := by decide +kernel
theorem dsv1_5 : decode jdk_42_method_149_code 5 = .ok (.ifCond .ne 22, 3) := by decide +kernel
theorem dsv1_8 : decode jdk_42_method_149_code 8 = .ok (.aload_n 0, 1) := by decide +kernel
theorem dsv1_9 : decode jdk_42_method_149_code 9 = .ok (.ldc 7, 2) := by decide +kernel
theorem dsv1_11 : decode jdk_42_method_149_code 11 = .ok (.getfield 9, 3) := by decide +kernel
theorem dsv1_14 : decode jdk_42_method_149_code 14 = .ok (.putfield 9, 3) := by decide +kernel
theorem dsv1_17 : decode jdk_42_method_149_code 17 = .ok (.aload_n 0, 1) := by decide +kernel
theorem dsv1_18 : decode jdk_42_method_149_code 18 = .ok (.ldc 7, 2) := by decide +kernel
theorem dsv1_20 : decode jdk_42_method_149_code 20 = .ok (.getfield 15, 3) := by decide +kernel
theorem dsv1_23 : decode jdk_42_method_149_code 23 = .ok (.putfield 15, 3) := by decide +kernel
theorem dsv1_26 : decode jdk_42_method_149_code 26 = .ok (.return_, 1) := by decide +kernel
theorem dsv1_27 : decode jdk_42_method_149_code 27 = .ok (.getstatic 38, 3) := by decide +kernel
theorem dsv1_30 : decode jdk_42_method_149_code 30 = .ok (.ifCond .eq 28, 3) := by decide +kernel
theorem dsv1_33 : decode jdk_42_method_149_code 33 = .ok (.aload_n 1, 1) := by decide +kernel
theorem dsv1_34 : decode jdk_42_method_149_code 34 = .ok (.iload_n 2, 1) := by decide +kernel
theorem dsv1_35 : decode jdk_42_method_149_code 35 = .ok (.iload_n 3, 1) := by decide +kernel
theorem dsv1_36 : decode jdk_42_method_149_code 36 = .ok (.invokestatic 177, 3) := by decide +kernel
theorem dsv1_39 : decode jdk_42_method_149_code 39 = .ok (.astore 5, 2) := by decide +kernel
theorem dsv1_41 : decode jdk_42_method_149_code 41 = .ok (.aload_n 0, 1) := by decide +kernel
theorem dsv1_42 : decode jdk_42_method_149_code 42 = .ok (.aload 5, 2) := by decide +kernel
theorem dsv1_44 : decode jdk_42_method_149_code 44 = .ok (.iload_n 3, 1) := by decide +kernel
theorem dsv1_45 : decode jdk_42_method_149_code 45 = .ok (.invokestatic 47, 3) := by decide +kernel
theorem dsv1_48 : decode jdk_42_method_149_code 48 = .ok (.putfield 15, 3) := by decide +kernel
theorem dsv1_51 : decode jdk_42_method_149_code 51 = .ok (.aload_n 0, 1) := by decide +kernel
theorem dsv1_52 : decode jdk_42_method_149_code 52 = .ok (.aload 5, 2) := by decide +kernel
theorem dsv1_54 : decode jdk_42_method_149_code 54 = .ok (.putfield 9, 3) := by decide +kernel
theorem dsv1_57 : decode jdk_42_method_149_code 57 = .ok (.return_, 1) := by decide +kernel
theorem dsv1_58 : decode jdk_42_method_149_code 58 = .ok (.aload_n 0, 1) := by decide +kernel
theorem dsv1_59 : decode jdk_42_method_149_code 59 = .ok (.iconst 1, 1) := by decide +kernel
theorem dsv1_60 : decode jdk_42_method_149_code 60 = .ok (.putfield 15, 3) := by decide +kernel
theorem dsv1_63 : decode jdk_42_method_149_code 63 = .ok (.aload_n 0, 1) := by decide +kernel
theorem dsv1_64 : decode jdk_42_method_149_code 64 = .ok (.aload_n 1, 1) := by decide +kernel
theorem dsv1_65 : decode jdk_42_method_149_code 65 = .ok (.iload_n 2, 1) := by decide +kernel
theorem dsv1_66 : decode jdk_42_method_149_code 66 = .ok (.iload_n 3, 1) := by decide +kernel
theorem dsv1_67 : decode jdk_42_method_149_code 67 = .ok (.invokestatic 180, 3) := by decide +kernel
theorem dsv1_70 : decode jdk_42_method_149_code 70 = .ok (.putfield 9, 3) := by decide +kernel
theorem dsv1_73 : decode jdk_42_method_149_code 73 = .ok (.return_, 1) := by decide +kernel
theorem efsv1 (m : MethodId) (x0 : Addr) (x1 : Addr) (x2 : Int32) (x3 : Int32) : entryFrame m #[(.ref x0), (.ref x1), (.int x2), (.int x3), .null] 6 = mkF m 0 #[.val (.ref x0), .val (.ref x1), .val (.int x2), .val (.int x3), .val .null, .unset] [] := by first | (simp [entryFrame, mkF, argsToLocals, Value.category]; done) | rfl
theorem pd_11 : parseMethodDescriptor "([BI)B" = some ⟨[(.array .byte), .int], some .byte⟩ := by decide +kernel
set_option maxRecDepth 65536 in
set_option maxHeartbeats 40000000 in
theorem rm_sv1 (l : Launch) (Z : State) (a0 : Array Value) (hw : ∀ d ∈ tables_1, d.before a0 Z = true) (ws : List Jvm.Cond) (x1 : Addr) (s1 : Addr) (ks : ClassId) (ds : Value) (v0 : Value) (c0v : Value) (CS : Int32) (c0 : Int32) (h0 : Heap) (n0 : Nat) (Z0 : n0 ≤ h0.size) (E1 : Exa Z h0 x1 "java/lang/String") (F1 : Fld Z h0 x1 "java/lang/String" "value" "[B" v0) (C1 : Fld Z h0 x1 "java/lang/String" "coder" "B" c0v) (gx : n0 ≤ x1) (V1 : Arv Z h0 s1 ks .char (1 : Int32) (([c0] : List Int32).map Value.int) ds) (hbig : 255 < c0) (hr : ∀ c ∈ ([c0] : List Int32), ¬ c < 0 ∧ ¬ (65535 : Int32) < c) (SA : Sta Z h0 "java/lang/StringUTF16" "$assertionsDisabled" "Z" (.int 1)) (SH : Sta Z h0 "java/lang/StringUTF16" "HI_BYTE_SHIFT" "I" (.int 0)) (SL : Sta Z h0 "java/lang/StringUTF16" "LO_BYTE_SHIFT" "I" (.int 8)) (SC : Sta Z h0 "java/lang/String" "COMPACT_STRINGS" "Z" (.int CS)) (hCS : ¬ CS = 0) :
    own_Met l Z ws (⟨"java/lang/String", "<init>", "([CIILjava/lang/Void;)V"⟩ : MethodName) jdk_42_method_149_code 6 none ({ frames := 4, cells := 2, slots := 3, locals := 70 } : Room) #[(.ref x1), (.ref s1), (.int 0), (.int 1), .null] h0 (own_QS Z x1 ([c0] : List Int32) h0 n0) := by
  refine own_body (plainFor_of_name pn_2) ?_
  intro p e s m below meth c s₁ hx hby hml hret hlk hown hnm hZ X0 e0
  have hml : c.maxLocals = 6 := hml
  have hown : s.vm.findClass "java/lang/String" = some m.cls := hown
  have N0 := Fr.nil n0
  refine own_cast (efsv1 m x1 s1 (0 : Int32) (1 : Int32)) ?_
  show oG p e below _ s₁ (mkF m 0 #[.val (.ref x1), .val (.ref s1), .val (.int 0), .val (.int 1), .val .null, .unset] [])
  refine oS (fun t k => XS.aloadN X0.here hx rfl (hb hby dsv1_0) rfl rfl k) ?_
  show oG p e below _ s₁ (mkF m 1 #[.val (.ref x1), .val (.ref s1), .val (.int 0), .val (.int 1), .val .null, .unset] [(.ref x1)])
  obtain ⟨T1, X1, e1, st1⟩ := initO X0 hx hZ hown (oW hw 11 rfl) (oW hw 12 rfl) (oW hw 13 rfl) e0 (g := (mkF m 1 #[.val (.ref x1), .val (.ref s1), .val (.int 0), .val (.int 1), .val .null, .unset] [(.ref x1)])) rfl (by rw [hml]; rfl) rfl (hb hby dsv1_1) (by decide) (W := 0) (by show 2 * 0 + _ ≤ _; exact Nat.le_of_eq rfl) (by decide)
  refine oS st1 ?_
  show oG p e below _ T1 (mkF m 4 #[.val (.ref x1), .val (.ref s1), .val (.int 0), .val (.int 1), .val .null, .unset] [])
  refine oS (fun t k => XS.iloadN X1.here hx rfl (hb hby dsv1_4) rfl  k) ?_
  show oG p e below _ T1 (mkF m 5 #[.val (.ref x1), .val (.ref s1), .val (.int 0), .val (.int 1), .val .null, .unset] [(.int 1)])
  refine oS (fun t k => XS.ifYes X1.here hx rfl (pc0 := 5) (pc' := 27) rfl (hb hby dsv1_5) rfl ((if0 _ _).trans (feq (by decide : ¬ (1 : Int32) = 0)).2) (by decide) (by decide) k) ?_
  show oG p e below _ T1 (mkF m 27 #[.val (.ref x1), .val (.ref s1), .val (.int 0), .val (.int 1), .val .null, .unset] [])
  obtain ⟨T27, X27, e27, st27⟩ := getS2 X1 hx hZ hown (host := "") (Or.inl (oW hw 31 rfl)) Via.refl e1 SC (g := (mkF m 27 #[.val (.ref x1), .val (.ref s1), .val (.int 0), .val (.int 1), .val .null, .unset] [])) rfl (hb hby dsv1_27)
  refine oS st27 ?_
  show oG p e below _ T27 (mkF m 30 #[.val (.ref x1), .val (.ref s1), .val (.int 0), .val (.int 1), .val .null, .unset] [(.int CS)])
  refine oS (fun t k => XS.ifNo X27.here hx rfl (hb hby dsv1_30) rfl ((if0 _ _).trans (feq hCS).1) k) ?_
  show oG p e below _ T27 (mkF m 33 #[.val (.ref x1), .val (.ref s1), .val (.int 0), .val (.int 1), .val .null, .unset] [])
  refine oS (fun t k => XS.aloadN X27.here hx rfl (hb hby dsv1_33) rfl rfl k) ?_
  refine oS (fun t k => XS.iloadN X27.here hx rfl (hb hby dsv1_34) rfl  k) ?_
  refine oS (fun t k => XS.iloadN X27.here hx rfl (hb hby dsv1_35) rfl  k) ?_
  show oG p e below _ T27 (mkF m 36 #[.val (.ref x1), .val (.ref s1), .val (.int 0), .val (.int 1), .val .null, .unset] [(.int 1), (.int 0), (.ref s1)])
  refine own_callS X27 hx hZ (y := (⟨"java/lang/StringUTF16", "compress", "([CII)[B"⟩ : MethodName)) (W := 0) (kc := 2) (ks := 3) hown (oW hw 32 rfl) (oW hw 33 rfl) (oW hw 34 rfl) (oW hw 35 rfl) (own_back (W := 0) (rm_cm1 l Z a0 hw [] s1 ks ds c0 h0 n0 Z0 V1 hbig hr SA SH SL) hZ (oW hw 35 rfl) (oW hw 34 rfl) (by decide) (by decide)) (by decide) (g := (mkF m 36 #[.val (.ref x1), .val (.ref s1), .val (.int 0), .val (.int 1), .val .null, .unset] [(.int 1), (.int 0), (.ref s1)])) rfl (by rw [hml]; rfl) (argsL := [(.ref s1), (.int 0), (.int 1)]) (rest := []) (lenOf pd_10 rfl) rfl (by show 2 * 0 + _ ≤ _; exact Nat.le_of_eq rfl) (hb hby dsv1_36) rfl e27 (by decide) (by decide) (fun v36 T36 L36 X36 hQ36 => ?_)
  obtain ⟨b, kb, rfl, M36, K36, gb, zb, B36⟩ := hQ36
  have N36 := Fr.app N0 M36
  have Z36 : n0 ≤ T36.heap.size := Nat.le_trans Z0 K36.1
  have E36 := E1.keep K36
  have F36 := F1.keep K36 nin0
  have C36 := C1.keep K36 nin0
  have nb : b ≠ x1 := Nat.ne_of_gt (Nat.lt_of_lt_of_le E1.lt zb)
  show oG p e below _ T36 (mkF m 39 #[.val (.ref x1), .val (.ref s1), .val (.int 0), .val (.int 1), .val .null, .unset] [(.ref b)])
  refine oS (fun t k => XS.astore X36.here hx rfl (hb hby dsv1_39) rfl rfl (l' := #[.val (.ref x1), .val (.ref s1), .val (.int 0), .val (.int 1), .val .null, .val (.ref b)]) rfl k) ?_
  show oG p e below _ T36 (mkF m 41 #[.val (.ref x1), .val (.ref s1), .val (.int 0), .val (.int 1), .val .null, .val (.ref b)] [])
  refine oS (fun t k => XS.aloadN X36.here hx rfl (hb hby dsv1_41) rfl rfl k) ?_
  refine oS (fun t k => XS.aload X36.here hx rfl (hb hby dsv1_42) rfl rfl k) ?_
  refine oS (fun t k => XS.iloadN X36.here hx rfl (hb hby dsv1_44) rfl  k) ?_
  show oG p e below _ T36 (mkF m 45 #[.val (.ref x1), .val (.ref s1), .val (.int 0), .val (.int 1), .val .null, .val (.ref b)] [(.int 1), (.ref b), (.ref x1)])
  refine own_callS X36 hx hZ (y := (⟨"java/lang/StringUTF16", "coderFromArrayLen", "([BI)B"⟩ : MethodName)) (W := 1) (kc := 0) (ks := 0) hown (oW hw 39 rfl) (oW hw 40 rfl) (oW hw 34 rfl) (oW hw 41 rfl) (own_back (W := 1) (rm_cf1 l Z a0 hw [] b kb _ _ T36.heap n0 Z36 B36) hZ (oW hw 41 rfl) (oW hw 34 rfl) (by decide) (by decide)) (by decide) (g := (mkF m 45 #[.val (.ref x1), .val (.ref s1), .val (.int 0), .val (.int 1), .val .null, .val (.ref b)] [(.int 1), (.ref b), (.ref x1)])) rfl (by rw [hml]; rfl) (argsL := [(.ref b), (.int 1)]) (rest := [(.ref x1)]) (lenOf pd_11 rfl) rfl (by show 2 * 0 + _ ≤ _; exact Nat.le_of_eq rfl) (hb hby dsv1_45) rfl rfl (by decide) (by decide) (fun v45 T45 L45 X45 hQ45 => ?_)
  obtain ⟨rfl, M45, e45⟩ := hQ45
  have N45 := Fr.app N36 M45
  show oG p e below _ T45 (mkF m 48 #[.val (.ref x1), .val (.ref s1), .val (.int 0), .val (.int 1), .val .null, .val (.ref b)] [(.int 1), (.ref x1)])
  obtain ⟨T48, h48, X48, e48, W48, st48⟩ := putFN X45 hx hZ hown (oW hw 21 rfl) Via.refl e45 C36 E36 (Or.inr ⟨(oW hw 17 rfl), rfl, hnm⟩) (oW hw 1 rfl) (ty := .byte) (v' := (.int 1)) (by decide) rfl rfl (g := (mkF m 48 #[.val (.ref x1), .val (.ref s1), .val (.int 0), .val (.int 1), .val .null, .val (.ref b)] [(.int 1), (.ref x1)])) rfl rfl (hb hby dsv1_48)
  refine oS st48 ?_
  have N48 := Fr.snoc X48 N45 gx
  have E48_o := E36.wr W48
  have F48_value := F36.other W48 (Or.inr (slot_ne (Or.inr (oW hw 16 rfl)) (Or.inr (oW hw 17 rfl)) (by decide) (t := (.array .byte)) (t' := .byte) (by decide) (by decide)))
  have F48_coder := C36.same W48
  show oG p e below _ T48 (mkF m 51 #[.val (.ref x1), .val (.ref s1), .val (.int 0), .val (.int 1), .val .null, .val (.ref b)] [])
  have B48 := B36.other W48 nb
  refine oS (fun t k => XS.aloadN X48.here hx rfl (hb hby dsv1_51) rfl rfl k) ?_
  refine oS (fun t k => XS.aload X48.here hx rfl (hb hby dsv1_52) rfl rfl k) ?_
  show oG p e below _ T48 (mkF m 54 #[.val (.ref x1), .val (.ref s1), .val (.int 0), .val (.int 1), .val .null, .val (.ref b)] [(.ref b), (.ref x1)])
  obtain ⟨T54, h54, X54, e54, W54, st54⟩ := putF X48 hx hZ hown (host := "") (Or.inl (oW hw 20 rfl)) Via.refl e48 F48_value E48_o (Or.inr ⟨(oW hw 16 rfl), rfl, hnm⟩) (oW hw 1 rfl) (ty := (.array .byte)) (by decide) rfl rfl (g := (mkF m 54 #[.val (.ref x1), .val (.ref s1), .val (.int 0), .val (.int 1), .val .null, .val (.ref b)] [(.ref b), (.ref x1)])) rfl rfl (hb hby dsv1_54)
  refine oS st54 ?_
  have N54 := Fr.snoc X54 N48 gx
  have E54_o := E48_o.wr W54
  have F54_value := F48_value.same W54
  have F54_coder := F48_coder.other W54 (Or.inr (slot_ne (Or.inr (oW hw 17 rfl)) (Or.inr (oW hw 16 rfl)) (by decide) (t := .byte) (t' := (.array .byte)) (by decide) (by decide)))
  show oG p e below _ T54 (mkF m 57 #[.val (.ref x1), .val (.ref s1), .val (.int 0), .val (.int 1), .val .null, .val (.ref b)] [])
  have B54 := B48.other W54 nb
  refine own_retV X54 hx hlk hret (hb hby dsv1_57) ?_ (by decide) (by decide)
  rw [e54]
  exact ⟨rfl, N54, (((Keep.refl h0 [x1]).trans K36 all0).wr W48 (Or.inl (List.mem_of_getElem? (i := 0) rfl))).wr W54 (Or.inl (List.mem_of_getElem? (i := 0) rfl)), b, kb, 1, (2 : Int32), _, E54_o, F54_value, F54_coder, B54, Or.inr ⟨rfl, rfl, rfl, own_big1 hbig⟩⟩
theorem dsn1_0 : decode jdk_42_method_3_code 0 = .ok (.aload_n 0, 1) := by decide +kernel
theorem dsn1_1 : decode jdk_42_method_3_code 1 = .ok (.aload_n 1, 1) := by decide +kernel
theorem dsn1_2 : decode jdk_42_method_3_code 2 = .ok (.iconst 0, 1) := by decide +kernel
theorem dsn1_3 : decode jdk_42_method_3_code 3 = .ok (.aload_n 1, 1) := by decide +kernel
theorem dsn1_4 : decode jdk_42_method_3_code 4 = .ok (.arraylength, 1) := by decide +kernel
theorem dsn1_5 : decode jdk_42_method_3_code 5 = .ok (.aconst_null, 1) := by decide +kernel
theorem dsn1_6 : decode jdk_42_method_3_code 6 = .ok (.invokespecial 27, 3) := by decide +kernel
theorem dsn1_9 : decode jdk_42_method_3_code 9 = .ok (.return_, 1) := by decide +kernel
theorem efsn1 (m : MethodId) (x0 : Addr) (x1 : Addr) : entryFrame m #[(.ref x0), (.ref x1)] 2 = mkF m 0 #[.val (.ref x0), .val (.ref x1)] [] := by first | (simp [entryFrame, mkF, argsToLocals, Value.category]; done) | rfl
theorem pd_12 : parseMethodDescriptor "([CIILjava/lang/Void;)V" = some ⟨[(.array .char), .int, .int, (.object "java/lang/Void")], none⟩ := by decide +kernel
set_option maxRecDepth 65536 in
set_option maxHeartbeats 40000000 in
theorem rm_s1 (l : Launch) (Z : State) (a0 : Array Value) (hw : ∀ d ∈ tables_1, d.before a0 Z = true) (ws : List Jvm.Cond) (x1 : Addr) (s1 : Addr) (ks : ClassId) (ds : Value) (v0 : Value) (c0v : Value) (CS : Int32) (c0 : Int32) (h0 : Heap) (n0 : Nat) (Z0 : n0 ≤ h0.size) (E1 : Exa Z h0 x1 "java/lang/String") (F1 : Fld Z h0 x1 "java/lang/String" "value" "[B" v0) (C1 : Fld Z h0 x1 "java/lang/String" "coder" "B" c0v) (gx : n0 ≤ x1) (V1 : Arv Z h0 s1 ks .char (1 : Int32) (([c0] : List Int32).map Value.int) ds) (hbig : 255 < c0) (hr : ∀ c ∈ ([c0] : List Int32), ¬ c < 0 ∧ ¬ (65535 : Int32) < c) (SA : Sta Z h0 "java/lang/StringUTF16" "$assertionsDisabled" "Z" (.int 1)) (SH : Sta Z h0 "java/lang/StringUTF16" "HI_BYTE_SHIFT" "I" (.int 0)) (SL : Sta Z h0 "java/lang/StringUTF16" "LO_BYTE_SHIFT" "I" (.int 8)) (SC : Sta Z h0 "java/lang/String" "COMPACT_STRINGS" "Z" (.int CS)) (hCS : ¬ CS = 0) :
    own_Met l Z ws (⟨"java/lang/String", "<init>", "([C)V"⟩ : MethodName) jdk_42_method_3_code 2 none ({ frames := 5, cells := 2, slots := 3, locals := 90 } : Room) #[(.ref x1), (.ref s1)] h0 (own_QS Z x1 ([c0] : List Int32) h0 n0) := by
  refine own_body (plainFor_of_name pn_2) ?_
  intro p e s m below meth c s₁ hx hby hml hret hlk hown hnm hZ X0 e0
  have hml : c.maxLocals = 2 := hml
  have hown : s.vm.findClass "java/lang/String" = some m.cls := hown
  have N0 := Fr.nil n0
  refine own_cast (efsn1 m x1 s1) ?_
  show oG p e below _ s₁ (mkF m 0 #[.val (.ref x1), .val (.ref s1)] [])
  refine oS (fun t k => XS.aloadN X0.here hx rfl (hb hby dsn1_0) rfl rfl k) ?_
  refine oS (fun t k => XS.aloadN X0.here hx rfl (hb hby dsn1_1) rfl rfl k) ?_
  refine oS (fun t k => XS.iconst X0.here hx rfl (hb hby dsn1_2) k) ?_
  refine oS (fun t k => XS.aloadN X0.here hx rfl (hb hby dsn1_3) rfl rfl k) ?_
  show oG p e below _ s₁ (mkF m 4 #[.val (.ref x1), .val (.ref s1)] [(.ref s1), (.int 0), (.ref s1), (.ref x1)])
  obtain ⟨cl4, Ar4, -, S4, M4, -, -⟩ := id V1
  refine oS (X0.arraylength hx (by rw [e0]; exact Ar4.1) (State.isArrayOf_alike hZ.alike Ar4.2.1) (g := (mkF m 4 #[.val (.ref x1), .val (.ref s1)] [(.ref s1), (.int 0), (.ref s1), (.ref x1)])) rfl rfl (hb hby dsn1_4)) ?_
  rw [len_of S4 M4]
  show oG p e below _ s₁ (mkF m 5 #[.val (.ref x1), .val (.ref s1)] [(.int 1), (.int 0), (.ref s1), (.ref x1)])
  refine oS (fun t k => XS.aconstNull X0.here hx rfl (hb hby dsn1_5) k) ?_
  show oG p e below _ s₁ (mkF m 6 #[.val (.ref x1), .val (.ref s1)] [.null, (.int 1), (.int 0), (.ref s1), (.ref x1)])
  refine own_callI X0 hx hZ (y := (⟨"java/lang/String", "<init>", "([CIILjava/lang/Void;)V"⟩ : MethodName)) (W := 0) (kc := 2) (ks := 3) rfl hown (oW hw 7 rfl) (oW hw 8 rfl) (oW hw 10 rfl) (own_back (W := 0) (rm_sv1 l Z a0 hw [] x1 s1 ks ds v0 c0v CS c0 h0 n0 Z0 E1 F1 C1 gx V1 hbig hr SA SH SL SC hCS) hZ (oW hw 10 rfl) (oW hw 2 rfl) (by decide) (by decide)) (by decide) (g := (mkF m 6 #[.val (.ref x1), .val (.ref s1)] [.null, (.int 1), (.int 0), (.ref s1), (.ref x1)])) rfl (by rw [hml]; rfl) (a := x1) (argsL := [(.ref s1), (.int 0), (.int 1), .null]) (rest := []) (lenOf pd_12 rfl) rfl (by show 2 * 0 + _ ≤ _; exact Nat.le_of_eq rfl) (hb hby dsn1_6) rfl e0 (by decide) (by decide) (fun v6 T6 L6 X6 hQ6 => ?_)
  obtain ⟨rfl, M6, K6, S6⟩ := hQ6
  show oG p e below _ T6 (mkF m 9 #[.val (.ref x1), .val (.ref s1)] [])
  refine own_retV X6 hx hlk hret (hb hby dsn1_9) ?_ (by decide) (by decide)
  exact ⟨rfl, Fr.app N0 M6, K6, S6⟩
theorem dnl2_0 : decode jdk_52_method_3_code 0 = .ok (.iload_n 0, 1) := by decide +kernel
theorem dnl2_1 : decode jdk_52_method_3_code 1 = .ok (.ifCond .ge 11, 3) := by decide +kernel
theorem dnl2_4 : decode jdk_52_method_3_code 4 = .ok (.new 17, 3) := by decide +kernel
theorem dnl2_7 : decode jdk_52_method_3_code 7 = .ok (.dup, 1) := by decide +kernel
theorem dnl2_8 : decode jdk_52_method_3_code 8 = .ok (.invokespecial 19, 3) := by decide +kernel
theorem dnl2_11 : decode jdk_52_method_3_code 11 = .ok (.athrow, 1) := by decide +kernel
theorem dnl2_12 : decode jdk_52_method_3_code 12 = .ok (.iload_n 0, 1) := by decide +kernel
theorem dnl2_13 : decode jdk_52_method_3_code 13 = .ok (.ldc 20, 2) := by decide +kernel
theorem dnl2_15 : decode jdk_52_method_3_code 15 = .ok (.if_icmp .lt 40, 3) := by decide +kernel
theorem dnl2_18 : decode jdk_52_method_3_code 18 = .ok (.new 21, 3) := by decide +kernel
theorem dnl2_21 : decode jdk_52_method_3_code 21 = .ok (.dup, 1) := by decide +kernel
theorem dnl2_22 : decode jdk_52_method_3_code 22 = .ok (.new 23, 3) := by decide +kernel
theorem dnl2_25 : decode jdk_52_method_3_code 25 = .ok (.dup, 1) := by decide +kernel
theorem dnl2_26 : decode jdk_52_method_3_code 26 = .ok (.invokespecial 25, 3) := by decide +kernel
theorem dnl2_29 : decode jdk_52_method_3_code 29 = .ok (.ldc 26, 2) := by decide +kernel
theorem dnl2_31 : decode jdk_52_method_3_code 31 = .ok (.invokevirtual 28, 3) := by decide +kernel
theorem dnl2_34 : decode jdk_52_method_3_code 34 = .ok (.iload_n 0, 1) := by decide +kernel
theorem dnl2_35 : decode jdk_52_method_3_code 35 = .ok (.invokevirtual 32, 3) := by decide +kernel
theorem dnl2_38 : decode jdk_52_method_3_code 38 = .ok (.ldc 35, 2) := by decide +kernel
theorem dnl2_40 : decode jdk_52_method_3_code 40 = .ok (.invokevirtual 28, 3) := by decide +kernel
theorem dnl2_43 : decode jdk_52_method_3_code 43 = .ok (.ldc 20, 2) := by decide +kernel
theorem dnl2_45 : decode jdk_52_method_3_code 45 = .ok (.invokevirtual 32, 3) := by decide +kernel
theorem dnl2_48 : decode jdk_52_method_3_code 48 = .ok (.invokevirtual 37, 3) := by decide +kernel
theorem dnl2_51 : decode jdk_52_method_3_code 51 = .ok (.invokespecial 41, 3) := by decide +kernel
theorem dnl2_54 : decode jdk_52_method_3_code 54 = .ok (.athrow, 1) := by decide +kernel
theorem dnl2_55 : decode jdk_52_method_3_code 55 = .ok (.iload_n 0, 1) := by decide +kernel
theorem dnl2_56 : decode jdk_52_method_3_code 56 = .ok (.iconst 1, 1) := by decide +kernel
theorem dnl2_57 : decode jdk_52_method_3_code 57 = .ok (.ishl, 1) := by decide +kernel
theorem dnl2_58 : decode jdk_52_method_3_code 58 = .ok (.ireturn, 1) := by decide +kernel
theorem efnl2 (m : MethodId) (x0 : Int32) : entryFrame m #[(.int x0)] 1 = mkF m 0 #[.val (.int x0)] [] := by first | (simp [entryFrame, mkF, argsToLocals, Value.category]; done) | rfl
set_option maxRecDepth 65536 in
set_option maxHeartbeats 40000000 in
theorem rm_nl2 (l : Launch) (Z : State) (a0 : Array Value) (hw : ∀ d ∈ tables_1, d.before a0 Z = true) (ws : List Jvm.Cond) (h0 : Heap) (n0 : Nat) (Z0 : n0 ≤ h0.size) :
    own_Met l Z ws (⟨"java/lang/StringUTF16", "newBytesLength", "(I)I"⟩ : MethodName) jdk_52_method_3_code 1 (some .int) ({ frames := 0, cells := 0, slots := 0, locals := 0 } : Room) #[(.int 2)] h0 (fun v h L => v = some (.int 4) ∧ Fr n0 L ∧ h = h0) := by
  refine own_body (plainFor_of_name pn_0) ?_
  intro p e s m below meth c s₁ hx hby hml hret hlk hown hnm hZ X0 e0
  have hml : c.maxLocals = 1 := hml
  have hown : s.vm.findClass "java/lang/StringUTF16" = some m.cls := hown
  have N0 := Fr.nil n0
  refine own_cast (efnl2 m (2 : Int32)) ?_
  show oG p e below _ s₁ (mkF m 0 #[.val (.int 2)] [])
  refine oS (fun t k => XS.iloadN X0.here hx rfl (hb hby dnl2_0) rfl  k) ?_
  show oG p e below _ s₁ (mkF m 1 #[.val (.int 2)] [(.int 2)])
  refine oS (fun t k => XS.ifYes X0.here hx rfl (pc0 := 1) (pc' := 12) rfl (hb hby dnl2_1) rfl ((if0 _ _).trans (flt (by decide : ¬ (2 : Int32) < 0)).2.1) (by decide) (by decide) k) ?_
  show oG p e below _ s₁ (mkF m 12 #[.val (.int 2)] [])
  refine oS (fun t k => XS.iloadN X0.here hx rfl (hb hby dnl2_12) rfl  k) ?_
  show oG p e below _ s₁ (mkF m 13 #[.val (.int 2)] [(.int 2)])
  refine oS (X0.ldcInt hx hown (mvT hZ (oW hw 89 rfl)) (g := (mkF m 13 #[.val (.int 2)] [(.int 2)])) rfl (hb hby dnl2_13)) ?_
  show oG p e below _ s₁ (mkF m 15 #[.val (.int 2)] [(.int 1073741823), (.int 2)])
  refine oS (fun t k => XS.icmpYes X0.here hx rfl (pc0 := 15) (pc' := 55) rfl (hb hby dnl2_15) rfl (tlt (by decide : (2 : Int32) < 1073741823)).1 (by decide) (by decide) k) ?_
  show oG p e below _ s₁ (mkF m 55 #[.val (.int 2)] [])
  refine oS (fun t k => XS.iloadN X0.here hx rfl (hb hby dnl2_55) rfl  k) ?_
  refine oS (fun t k => XS.iconst X0.here hx rfl (hb hby dnl2_56) k) ?_
  refine oS (fun t k => XS.ishl X0.here hx rfl (hb hby dnl2_57) rfl k) ?_
  show oG p e below _ s₁ (mkF m 58 #[.val (.int 2)] [(.int ((2 : Int32) <<< ((1 : Int32) &&& 31)))])
  rw [(by decide : ((2 : Int32) <<< ((1 : Int32) &&& 31)) = (4 : Int32))]
  show oG p e below _ s₁ (mkF m 58 #[.val (.int 2)] [(.int 4)])
  refine own_retI X0 hx hlk hret (hb hby dnl2_58) ?_ (by decide) (by decide)
  rw [e0]
  exact ⟨rfl, N0, rfl⟩
theorem dnf2_0 : decode jdk_52_method_2_code 0 = .ok (.iload_n 0, 1) := by decide +kernel
theorem dnf2_1 : decode jdk_52_method_2_code 1 = .ok (.invokestatic 11, 3) := by decide +kernel
theorem dnf2_4 : decode jdk_52_method_2_code 4 = .ok (.newarray .byte, 2) := by decide +kernel
theorem dnf2_6 : decode jdk_52_method_2_code 6 = .ok (.areturn, 1) := by decide +kernel
theorem efnf2 (m : MethodId) (x0 : Int32) : entryFrame m #[(.int x0)] 1 = mkF m 0 #[.val (.int x0)] [] := by first | (simp [entryFrame, mkF, argsToLocals, Value.category]; done) | rfl
set_option maxRecDepth 65536 in
set_option maxHeartbeats 40000000 in
theorem rm_nf2 (l : Launch) (Z : State) (a0 : Array Value) (hw : ∀ d ∈ tables_1, d.before a0 Z = true) (ws : List Jvm.Cond) (h0 : Heap) (n0 : Nat) (Z0 : n0 ≤ h0.size) :
    own_Met l Z ws (⟨"java/lang/StringUTF16", "newBytesFor", "(I)[B"⟩ : MethodName) jdk_52_method_2_code 1 (some (.array .byte)) ({ frames := 1, cells := 1, slots := 4, locals := 12 } : Room) #[(.int 2)] h0 (fun v h L => ∃ kb, v = some (.ref h0.size) ∧ Fr n0 L ∧ Ext h0 h ∧ Arv Z h h0.size kb .byte (4 : Int32) [(.int 0), (.int 0), (.int 0), (.int 0)] (.int 0)) := by
  refine own_body (plainFor_of_name pn_0) ?_
  intro p e s m below meth c s₁ hx hby hml hret hlk hown hnm hZ X0 e0
  have hml : c.maxLocals = 1 := hml
  have hown : s.vm.findClass "java/lang/StringUTF16" = some m.cls := hown
  have N0 := Fr.nil n0
  refine own_cast (efnf2 m (2 : Int32)) ?_
  show oG p e below _ s₁ (mkF m 0 #[.val (.int 2)] [])
  refine oS (fun t k => XS.iloadN X0.here hx rfl (hb hby dnf2_0) rfl  k) ?_
  show oG p e below _ s₁ (mkF m 1 #[.val (.int 2)] [(.int 2)])
  refine own_callS X0 hx hZ (y := (⟨"java/lang/StringUTF16", "newBytesLength", "(I)I"⟩ : MethodName)) (W := 0) (kc := 0) (ks := 0) hown (oW hw 86 rfl) (oW hw 87 rfl) (oW hw 34 rfl) (oW hw 88 rfl) (own_back (W := 0) (rm_nl2 l Z a0 hw [] h0 n0 Z0) hZ (oW hw 88 rfl) (oW hw 34 rfl) (by decide) (by decide)) (by decide) (g := (mkF m 1 #[.val (.int 2)] [(.int 2)])) rfl (by rw [hml]; rfl) (argsL := [(.int 2)]) (rest := []) (lenOf pd_6 rfl) rfl (by show 2 * 0 + _ ≤ _; exact Nat.le_of_eq rfl) (hb hby dnf2_1) rfl e0 (by decide) (by decide) (fun v1 T1 L1 X1 hQ1 => ?_)
  obtain ⟨rfl, M1, e1⟩ := hQ1
  show oG p e below _ T1 (mkF m 4 #[.val (.int 2)] [(.int 4)])
  obtain ⟨T4, h4, k4, X4, e4, E4, A4, st4⟩ := newP X1 hx hZ (oW hw 15 rfl) e1 (g := (mkF m 4 #[.val (.int 2)] [(.int 4)])) rfl (hb hby dnf2_4) rfl (by decide) (cap := 4) (by decide) (by decide) (by decide) (by decide)
  obtain ⟨b4, g4⟩ : ∃ z, z = h0.size := ⟨_, rfl⟩
  rw [← g4] at A4 st4
  have V4 : Arv Z h4 b4 k4 .byte (4 : Int32) [(.int 0), (.int 0), (.int 0), (.int 0)] (.int 0) := (Arv.new A4 (by decide)).pad (pad_rep [] (.int 0) 4)
  refine oS st4 ?_
  show oG p e below _ T4 (mkF m 6 #[.val (.int 2)] [(.ref b4)])
  subst g4
  show oG p e below _ T4 (mkF m 6 #[.val (.int 2)] [(.ref h0.size)])
  refine own_retA X4 hx hlk hret rfl rfl (hb hby dnf2_6) ?_ (by decide) (by decide)
  rw [e4]
  exact ⟨k4, rfl, Fr.app N0 M1, E4, V4⟩
theorem dtb2_0 : decode jdk_52_method_14_code 0 = .ok (.iload_n 2, 1) := by decide +kernel
theorem dtb2_1 : decode jdk_52_method_14_code 1 = .ok (.invokestatic 107, 3) := by decide +kernel
theorem dtb2_4 : decode jdk_52_method_14_code 4 = .ok (.astore_n 3, 1) := by decide +kernel
theorem dtb2_5 : decode jdk_52_method_14_code 5 = .ok (.iconst 0, 1) := by decide +kernel
theorem dtb2_6 : decode jdk_52_method_14_code 6 = .ok (.istore 4, 2) := by decide +kernel
theorem dtb2_8 : decode jdk_52_method_14_code 8 = .ok (.iload 4, 2) := by decide +kernel
theorem dtb2_10 : decode jdk_52_method_14_code 10 = .ok (.iload_n 2, 1) := by decide +kernel
theorem dtb2_11 : decode jdk_52_method_14_code 11 = .ok (.if_icmp .ge 21, 3) := by decide +kernel
theorem dtb2_14 : decode jdk_52_method_14_code 14 = .ok (.aload_n 3, 1) := by decide +kernel
theorem dtb2_15 : decode jdk_52_method_14_code 15 = .ok (.iload 4, 2) := by decide +kernel
theorem dtb2_17 : decode jdk_52_method_14_code 17 = .ok (.aload_n 0, 1) := by decide +kernel
theorem dtb2_18 : decode jdk_52_method_14_code 18 = .ok (.iload_n 1, 1) := by decide +kernel
theorem dtb2_19 : decode jdk_52_method_14_code 19 = .ok (.caload, 1) := by decide +kernel
theorem dtb2_20 : decode jdk_52_method_14_code 20 = .ok (.invokestatic 111, 3) := by decide +kernel
theorem dtb2_23 : decode jdk_52_method_14_code 23 = .ok (.iinc 1 1, 3) := by decide +kernel
theorem dtb2_26 : decode jdk_52_method_14_code 26 = .ok (.iinc 4 1, 3) := by decide +kernel
theorem dtb2_29 : decode jdk_52_method_14_code 29 = .ok (.goto (-21), 3) := by decide +kernel
theorem dtb2_32 : decode jdk_52_method_14_code 32 = .ok (.aload_n 3, 1) := by decide +kernel
theorem dtb2_33 : decode jdk_52_method_14_code 33 = .ok (.areturn, 1) := by decide +kernel
theorem eftb2 (m : MethodId) (x0 : Addr) (x1 : Int32) (x2 : Int32) : entryFrame m #[(.ref x0), (.int x1), (.int x2)] 5 = mkF m 0 #[.val (.ref x0), .val (.int x1), .val (.int x2), .unset, .unset] [] := by first | (simp [entryFrame, mkF, argsToLocals, Value.category]; done) | rfl
set_option maxRecDepth 65536 in
set_option maxHeartbeats 40000000 in
theorem rm_tb2 (l : Launch) (Z : State) (a0 : Array Value) (hw : ∀ d ∈ tables_1, d.before a0 Z = true) (ws : List Jvm.Cond) (s1 : Addr) (ks : ClassId) (ds : Value) (c0 : Int32) (c1 : Int32) (h0 : Heap) (n0 : Nat) (Z0 : n0 ≤ h0.size) (V1 : Arv Z h0 s1 ks .char (2 : Int32) (([c0, c1] : List Int32).map Value.int) ds) (SA : Sta Z h0 "java/lang/StringUTF16" "$assertionsDisabled" "Z" (.int 1)) (SH : Sta Z h0 "java/lang/StringUTF16" "HI_BYTE_SHIFT" "I" (.int 0)) (SL : Sta Z h0 "java/lang/StringUTF16" "LO_BYTE_SHIFT" "I" (.int 8)) :
    own_Met l Z ws (⟨"java/lang/StringUTF16", "toBytes", "([CII)[B"⟩ : MethodName) jdk_52_method_14_code 5 (some (.array .byte)) ({ frames := 2, cells := 1, slots := 4, locals := 30 } : Room) #[(.ref s1), (.int 0), (.int 2)] h0 (fun v h L => ∃ kb, v = some (.ref h0.size) ∧ Fr n0 L ∧ Keep h0 h [] ∧ Arv Z h h0.size kb .byte (4 : Int32) (StrChars.Road.wideBytes ([c0, c1] : List Int32)) (.int 0)) := by
  refine own_body (plainFor_of_name pn_0) ?_
  intro p e s m below meth c s₁ hx hby hml hret hlk hown hnm hZ X0 e0
  have hml : c.maxLocals = 5 := hml
  have hown : s.vm.findClass "java/lang/StringUTF16" = some m.cls := hown
  have N0 := Fr.nil n0
  refine own_cast (eftb2 m s1 (0 : Int32) (2 : Int32)) ?_
  show oG p e below _ s₁ (mkF m 0 #[.val (.ref s1), .val (.int 0), .val (.int 2), .unset, .unset] [])
  refine oS (fun t k => XS.iloadN X0.here hx rfl (hb hby dtb2_0) rfl  k) ?_
  show oG p e below _ s₁ (mkF m 1 #[.val (.ref s1), .val (.int 0), .val (.int 2), .unset, .unset] [(.int 2)])
  refine own_callS X0 hx hZ (y := (⟨"java/lang/StringUTF16", "newBytesFor", "(I)[B"⟩ : MethodName)) (W := 0) (kc := 1) (ks := 4) hown (oW hw 83 rfl) (oW hw 84 rfl) (oW hw 34 rfl) (oW hw 85 rfl) (own_back (W := 0) (rm_nf2 l Z a0 hw [] h0 n0 Z0) hZ (oW hw 85 rfl) (oW hw 34 rfl) (by decide) (by decide)) (by decide) (g := (mkF m 1 #[.val (.ref s1), .val (.int 0), .val (.int 2), .unset, .unset] [(.int 2)])) rfl (by rw [hml]; rfl) (argsL := [(.int 2)]) (rest := []) (lenOf pd_7 rfl) rfl (by show 2 * 0 + _ ≤ _; exact Nat.le_of_eq rfl) (hb hby dtb2_1) rfl e0 (by decide) (by decide) (fun v1 T1 L1 X1 hQ1 => ?_)
  obtain ⟨kb, rfl, M1, E1, B1⟩ := hQ1
  have N1 := Fr.app N0 M1
  have KK1 : Keep h0 T1.heap [] := (Keep.refl h0 []).ext E1
  have Z1 : n0 ≤ T1.heap.size := Nat.le_trans Z0 E1.1
  have W1 := V1.ext E1
  have ne1 : s1 ≠ h0.size := Nat.ne_of_lt V1.lt
  have SA1 := SA.ext E1
  have SH1 := SH.ext E1
  have SL1 := SL.ext E1
  show oG p e below _ T1 (mkF m 4 #[.val (.ref s1), .val (.int 0), .val (.int 2), .unset, .unset] [(.ref h0.size)])
  refine oS (fun t k => XS.astoreN X1.here hx rfl (hb hby dtb2_4) rfl rfl (l' := #[.val (.ref s1), .val (.int 0), .val (.int 2), .val (.ref h0.size), .unset]) rfl k) ?_
  show oG p e below _ T1 (mkF m 5 #[.val (.ref s1), .val (.int 0), .val (.int 2), .val (.ref h0.size), .unset] [])
  refine oS (fun t k => XS.iconst X1.here hx rfl (hb hby dtb2_5) k) ?_
  refine oS (fun t k => XS.istore X1.here hx rfl (hb hby dtb2_6) rfl (l' := #[.val (.ref s1), .val (.int 0), .val (.int 2), .val (.ref h0.size), .val (.int 0)]) rfl k) ?_
  show oG p e below _ T1 (mkF m 8 #[.val (.ref s1), .val (.int 0), .val (.int 2), .val (.ref h0.size), .val (.int 0)] [])
  refine oS (fun t k => XS.iload X1.here hx rfl (hb hby dtb2_8) rfl  k) ?_
  refine oS (fun t k => XS.iloadN X1.here hx rfl (hb hby dtb2_10) rfl  k) ?_
  show oG p e below _ T1 (mkF m 11 #[.val (.ref s1), .val (.int 0), .val (.int 2), .val (.ref h0.size), .val (.int 0)] [(.int 2), (.int 0)])
  refine oS (fun t k => XS.icmpNo X1.here hx rfl (hb hby dtb2_11) rfl (tlt (by decide : (0 : Int32) < (2 : Int32))).2.1 k) ?_
  show oG p e below _ T1 (mkF m 14 #[.val (.ref s1), .val (.int 0), .val (.int 2), .val (.ref h0.size), .val (.int 0)] [])
  refine oS (fun t k => XS.aloadN X1.here hx rfl (hb hby dtb2_14) rfl rfl k) ?_
  refine oS (fun t k => XS.iload X1.here hx rfl (hb hby dtb2_15) rfl  k) ?_
  refine oS (fun t k => XS.aloadN X1.here hx rfl (hb hby dtb2_17) rfl rfl k) ?_
  refine oS (fun t k => XS.iloadN X1.here hx rfl (hb hby dtb2_18) rfl  k) ?_
  show oG p e below _ T1 (mkF m 19 #[.val (.ref s1), .val (.int 0), .val (.int 2), .val (.ref h0.size), .val (.int 0)] [(.int 0), (.ref s1), (.int 0), (.ref h0.size)])
  obtain ⟨cli0, Ari0, -, Si0, Mi0, Hi0, Gi0⟩ := id W1
  have hini0 : ¬ ((0 : Int32) < 0 ∨ cli0.slots.size ≤ ((0 : Int32)).toNatClampNeg) := inb_of Si0 ⟨by decide, by decide⟩
  refine oS (X1.caload hx (j := (0 : Int32)) (v := (.int c0)) Ari0.1 (State.isArrayOf_alike hZ.alike Ari0.2.1) Ari0.2.2 hini0 (Has.at Hi0 hini0 rfl) (g := (mkF m 19 #[.val (.ref s1), .val (.int 0), .val (.int 2), .val (.ref h0.size), .val (.int 0)] [(.int 0), (.ref s1), (.int 0), (.ref h0.size)])) rfl rfl (hb hby dtb2_19)) ?_
  show oG p e below _ T1 (mkF m 20 #[.val (.ref s1), .val (.int 0), .val (.int 2), .val (.ref h0.size), .val (.int 0)] [(.int c0), (.int 0), (.ref h0.size)])
  refine own_callS X1 hx hZ (y := (⟨"java/lang/StringUTF16", "putChar", "([BII)V"⟩ : MethodName)) (W := 0) (kc := 0) (ks := 0) hown (oW hw 90 rfl) (oW hw 91 rfl) (oW hw 34 rfl) (oW hw 92 rfl) (own_back (W := 0) (rm_pu0 l Z a0 hw [] h0.size c0 kb (4 : Int32) _ T1.heap n0 Z1 B1 Z0 (by decide) (by decide) (Nat.le_of_ble_eq_true rfl) SA1 SH1 SL1) hZ (oW hw 92 rfl) (oW hw 34 rfl) (by decide) (by decide)) (by decide) (g := (mkF m 20 #[.val (.ref s1), .val (.int 0), .val (.int 2), .val (.ref h0.size), .val (.int 0)] [(.int c0), (.int 0), (.ref h0.size)])) rfl (by rw [hml]; rfl) (argsL := [(.ref h0.size), (.int 0), (.int c0)]) (rest := []) (lenOf pd_8 rfl) rfl (by show 2 * 0 + _ ≤ _; exact Nat.le_of_eq rfl) (hb hby dtb2_20) rfl rfl (by decide) (by decide) (fun vq0 Tq0 Lq0 Xq0 hQq0 => ?_)
  obtain ⟨rfl, Mq0, Kq0, Bq0⟩ := hQq0
  have Nq0 := Fr.app N1 Mq0
  have KKq0 : Keep h0 Tq0.heap [] := KK1.trans Kq0 (allS (Or.inr (Nat.le_refl _)) all0)
  have Zq0 : n0 ≤ Tq0.heap.size := Nat.le_trans Z1 Kq0.1
  have Wq0 := W1.keep Kq0 (ninS ne1 nin0)
  have SAq0 := own_staK SA1 Kq0 (own_arvOld B1)
  have SHq0 := own_staK SH1 Kq0 (own_arvOld B1)
  have SLq0 := own_staK SL1 Kq0 (own_arvOld B1)
  show oG p e below _ Tq0 (mkF m 23 #[.val (.ref s1), .val (.int 0), .val (.int 2), .val (.ref h0.size), .val (.int 0)] [])
  refine oS (fun t k => XS.iinc Xq0.here hx rfl (hb hby dtb2_23) rfl (l' := #[.val (.ref s1), .val (.int ((0 : Int32) + (1 : Int32))), .val (.int 2), .val (.ref h0.size), .val (.int 0)]) rfl k) ?_
  show oG p e below _ Tq0 (mkF m 26 #[.val (.ref s1), .val (.int ((0 : Int32) + (1 : Int32))), .val (.int 2), .val (.ref h0.size), .val (.int 0)] [])
  show oG p e below _ Tq0 (mkF m 26 #[.val (.ref s1), .val (.int 1), .val (.int 2), .val (.ref h0.size), .val (.int 0)] [])
  refine oS (fun t k => XS.iinc Xq0.here hx rfl (hb hby dtb2_26) rfl (l' := #[.val (.ref s1), .val (.int 1), .val (.int 2), .val (.ref h0.size), .val (.int ((0 : Int32) + (1 : Int32)))]) rfl k) ?_
  show oG p e below _ Tq0 (mkF m 29 #[.val (.ref s1), .val (.int 1), .val (.int 2), .val (.ref h0.size), .val (.int ((0 : Int32) + (1 : Int32)))] [])
  show oG p e below _ Tq0 (mkF m 29 #[.val (.ref s1), .val (.int 1), .val (.int 2), .val (.ref h0.size), .val (.int 1)] [])
  refine oS (fun t k => XS.goto Xq0.here hx rfl (pc0 := 29) (pc' := 8) rfl (hb hby dtb2_29) (by decide) (by decide) k) ?_
  show oG p e below _ Tq0 (mkF m 8 #[.val (.ref s1), .val (.int 1), .val (.int 2), .val (.ref h0.size), .val (.int 1)] [])
  refine oS (fun t k => XS.iload Xq0.here hx rfl (hb hby dtb2_8) rfl  k) ?_
  refine oS (fun t k => XS.iloadN Xq0.here hx rfl (hb hby dtb2_10) rfl  k) ?_
  show oG p e below _ Tq0 (mkF m 11 #[.val (.ref s1), .val (.int 1), .val (.int 2), .val (.ref h0.size), .val (.int 1)] [(.int 2), (.int 1)])
  refine oS (fun t k => XS.icmpNo Xq0.here hx rfl (hb hby dtb2_11) rfl (tlt (by decide : (1 : Int32) < (2 : Int32))).2.1 k) ?_
  show oG p e below _ Tq0 (mkF m 14 #[.val (.ref s1), .val (.int 1), .val (.int 2), .val (.ref h0.size), .val (.int 1)] [])
  refine oS (fun t k => XS.aloadN Xq0.here hx rfl (hb hby dtb2_14) rfl rfl k) ?_
  refine oS (fun t k => XS.iload Xq0.here hx rfl (hb hby dtb2_15) rfl  k) ?_
  refine oS (fun t k => XS.aloadN Xq0.here hx rfl (hb hby dtb2_17) rfl rfl k) ?_
  refine oS (fun t k => XS.iloadN Xq0.here hx rfl (hb hby dtb2_18) rfl  k) ?_
  show oG p e below _ Tq0 (mkF m 19 #[.val (.ref s1), .val (.int 1), .val (.int 2), .val (.ref h0.size), .val (.int 1)] [(.int 1), (.ref s1), (.int 1), (.ref h0.size)])
  obtain ⟨cli1, Ari1, -, Si1, Mi1, Hi1, Gi1⟩ := id Wq0
  have hini1 : ¬ ((1 : Int32) < 0 ∨ cli1.slots.size ≤ ((1 : Int32)).toNatClampNeg) := inb_of Si1 ⟨by decide, by decide⟩
  refine oS (Xq0.caload hx (j := (1 : Int32)) (v := (.int c1)) Ari1.1 (State.isArrayOf_alike hZ.alike Ari1.2.1) Ari1.2.2 hini1 (Has.at Hi1 hini1 rfl) (g := (mkF m 19 #[.val (.ref s1), .val (.int 1), .val (.int 2), .val (.ref h0.size), .val (.int 1)] [(.int 1), (.ref s1), (.int 1), (.ref h0.size)])) rfl rfl (hb hby dtb2_19)) ?_
  show oG p e below _ Tq0 (mkF m 20 #[.val (.ref s1), .val (.int 1), .val (.int 2), .val (.ref h0.size), .val (.int 1)] [(.int c1), (.int 1), (.ref h0.size)])
  refine own_callS Xq0 hx hZ (y := (⟨"java/lang/StringUTF16", "putChar", "([BII)V"⟩ : MethodName)) (W := 0) (kc := 0) (ks := 0) hown (oW hw 90 rfl) (oW hw 91 rfl) (oW hw 34 rfl) (oW hw 92 rfl) (own_back (W := 0) (rm_pu1 l Z a0 hw [] h0.size c1 kb (4 : Int32) _ Tq0.heap n0 Zq0 Bq0 Z0 (by decide) (by decide) (Nat.le_of_ble_eq_true rfl) SAq0 SHq0 SLq0) hZ (oW hw 92 rfl) (oW hw 34 rfl) (by decide) (by decide)) (by decide) (g := (mkF m 20 #[.val (.ref s1), .val (.int 1), .val (.int 2), .val (.ref h0.size), .val (.int 1)] [(.int c1), (.int 1), (.ref h0.size)])) rfl (by rw [hml]; rfl) (argsL := [(.ref h0.size), (.int 1), (.int c1)]) (rest := []) (lenOf pd_8 rfl) rfl (by show 2 * 0 + _ ≤ _; exact Nat.le_of_eq rfl) (hb hby dtb2_20) rfl rfl (by decide) (by decide) (fun vq1 Tq1 Lq1 Xq1 hQq1 => ?_)
  obtain ⟨rfl, Mq1, Kq1, Bq1⟩ := hQq1
  have Nq1 := Fr.app Nq0 Mq1
  have KKq1 : Keep h0 Tq1.heap [] := KKq0.trans Kq1 (allS (Or.inr (Nat.le_refl _)) all0)
  have Zq1 : n0 ≤ Tq1.heap.size := Nat.le_trans Zq0 Kq1.1
  have Wq1 := Wq0.keep Kq1 (ninS ne1 nin0)
  have SAq1 := own_staK SAq0 Kq1 (own_arvOld Bq0)
  have SHq1 := own_staK SHq0 Kq1 (own_arvOld Bq0)
  have SLq1 := own_staK SLq0 Kq1 (own_arvOld Bq0)
  show oG p e below _ Tq1 (mkF m 23 #[.val (.ref s1), .val (.int 1), .val (.int 2), .val (.ref h0.size), .val (.int 1)] [])
  refine oS (fun t k => XS.iinc Xq1.here hx rfl (hb hby dtb2_23) rfl (l' := #[.val (.ref s1), .val (.int ((1 : Int32) + (1 : Int32))), .val (.int 2), .val (.ref h0.size), .val (.int 1)]) rfl k) ?_
  show oG p e below _ Tq1 (mkF m 26 #[.val (.ref s1), .val (.int ((1 : Int32) + (1 : Int32))), .val (.int 2), .val (.ref h0.size), .val (.int 1)] [])
  show oG p e below _ Tq1 (mkF m 26 #[.val (.ref s1), .val (.int 2), .val (.int 2), .val (.ref h0.size), .val (.int 1)] [])
  refine oS (fun t k => XS.iinc Xq1.here hx rfl (hb hby dtb2_26) rfl (l' := #[.val (.ref s1), .val (.int 2), .val (.int 2), .val (.ref h0.size), .val (.int ((1 : Int32) + (1 : Int32)))]) rfl k) ?_
  show oG p e below _ Tq1 (mkF m 29 #[.val (.ref s1), .val (.int 2), .val (.int 2), .val (.ref h0.size), .val (.int ((1 : Int32) + (1 : Int32)))] [])
  show oG p e below _ Tq1 (mkF m 29 #[.val (.ref s1), .val (.int 2), .val (.int 2), .val (.ref h0.size), .val (.int 2)] [])
  refine oS (fun t k => XS.goto Xq1.here hx rfl (pc0 := 29) (pc' := 8) rfl (hb hby dtb2_29) (by decide) (by decide) k) ?_
  show oG p e below _ Tq1 (mkF m 8 #[.val (.ref s1), .val (.int 2), .val (.int 2), .val (.ref h0.size), .val (.int 2)] [])
  refine oS (fun t k => XS.iload Xq1.here hx rfl (hb hby dtb2_8) rfl  k) ?_
  refine oS (fun t k => XS.iloadN Xq1.here hx rfl (hb hby dtb2_10) rfl  k) ?_
  show oG p e below _ Tq1 (mkF m 11 #[.val (.ref s1), .val (.int 2), .val (.int 2), .val (.ref h0.size), .val (.int 2)] [(.int 2), (.int 2)])
  refine oS (fun t k => XS.icmpYes Xq1.here hx rfl (pc0 := 11) (pc' := 32) rfl (hb hby dtb2_11) rfl (flt (by decide : ¬ (2 : Int32) < (2 : Int32))).2.1 (by decide) (by decide) k) ?_
  show oG p e below _ Tq1 (mkF m 32 #[.val (.ref s1), .val (.int 2), .val (.int 2), .val (.ref h0.size), .val (.int 2)] [])
  refine oS (fun t k => XS.aloadN Xq1.here hx rfl (hb hby dtb2_32) rfl rfl k) ?_
  show oG p e below _ Tq1 (mkF m 33 #[.val (.ref s1), .val (.int 2), .val (.int 2), .val (.ref h0.size), .val (.int 2)] [(.ref h0.size)])
  refine own_retA Xq1 hx hlk hret rfl rfl (hb hby dtb2_33) ?_ (by decide) (by decide)
  exact ⟨kb, rfl, Nq1, KKq1, Bq1⟩
theorem dci2_0 : decode jdk_52_method_21_code 0 = .ok (.iconst 0, 1) := by decide +kernel
theorem dci2_1 : decode jdk_52_method_21_code 1 = .ok (.istore 5, 2) := by decide +kernel
theorem dci2_3 : decode jdk_52_method_21_code 3 = .ok (.iload 5, 2) := by decide +kernel
theorem dci2_5 : decode jdk_52_method_21_code 5 = .ok (.iload 4, 2) := by decide +kernel
theorem dci2_7 : decode jdk_52_method_21_code 7 = .ok (.if_icmp .ge 37, 3) := by decide +kernel
theorem dci2_10 : decode jdk_52_method_21_code 10 = .ok (.aload_n 0, 1) := by decide +kernel
theorem dci2_11 : decode jdk_52_method_21_code 11 = .ok (.iload_n 1, 1) := by decide +kernel
theorem dci2_12 : decode jdk_52_method_21_code 12 = .ok (.caload, 1) := by decide +kernel
theorem dci2_13 : decode jdk_52_method_21_code 13 = .ok (.istore 6, 2) := by decide +kernel
theorem dci2_15 : decode jdk_52_method_21_code 15 = .ok (.iload 6, 2) := by decide +kernel
theorem dci2_17 : decode jdk_52_method_21_code 17 = .ok (.sipush 255, 3) := by decide +kernel
theorem dci2_20 : decode jdk_52_method_21_code 20 = .ok (.if_icmp .le 6, 3) := by decide +kernel
theorem dci2_23 : decode jdk_52_method_21_code 23 = .ok (.iload 5, 2) := by decide +kernel
theorem dci2_25 : decode jdk_52_method_21_code 25 = .ok (.ireturn, 1) := by decide +kernel
theorem dci2_26 : decode jdk_52_method_21_code 26 = .ok (.aload_n 2, 1) := by decide +kernel
theorem dci2_27 : decode jdk_52_method_21_code 27 = .ok (.iload_n 3, 1) := by decide +kernel
theorem dci2_28 : decode jdk_52_method_21_code 28 = .ok (.iload 6, 2) := by decide +kernel
theorem dci2_30 : decode jdk_52_method_21_code 30 = .ok (.i2b, 1) := by decide +kernel
theorem dci2_31 : decode jdk_52_method_21_code 31 = .ok (.bastore, 1) := by decide +kernel
theorem dci2_32 : decode jdk_52_method_21_code 32 = .ok (.iinc 1 1, 3) := by decide +kernel
theorem dci2_35 : decode jdk_52_method_21_code 35 = .ok (.iinc 3 1, 3) := by decide +kernel
theorem dci2_38 : decode jdk_52_method_21_code 38 = .ok (.iinc 5 1, 3) := by decide +kernel
theorem dci2_41 : decode jdk_52_method_21_code 41 = .ok (.goto (-38), 3) := by decide +kernel
theorem dci2_44 : decode jdk_52_method_21_code 44 = .ok (.iload 4, 2) := by decide +kernel
theorem dci2_46 : decode jdk_52_method_21_code 46 = .ok (.ireturn, 1) := by decide +kernel
theorem efci2 (m : MethodId) (x0 : Addr) (x1 : Int32) (x2 : Addr) (x3 : Int32) (x4 : Int32) : entryFrame m #[(.ref x0), (.int x1), (.ref x2), (.int x3), (.int x4)] 7 = mkF m 0 #[.val (.ref x0), .val (.int x1), .val (.ref x2), .val (.int x3), .val (.int x4), .unset, .unset] [] := by first | (simp [entryFrame, mkF, argsToLocals, Value.category]; done) | rfl
set_option maxRecDepth 65536 in
set_option maxHeartbeats 40000000 in
theorem rm_ci2 (l : Launch) (Z : State) (a0 : Array Value) (hw : ∀ d ∈ tables_1, d.before a0 Z = true) (ws : List Jvm.Cond) (s1 : Addr) (d1 : Addr) (ks : ClassId) (kd : ClassId) (ds : Value) (c0 : Int32) (c1 : Int32) (h0 : Heap) (n0 : Nat) (Z0 : n0 ≤ h0.size) (V1 : Arv Z h0 s1 ks .char (2 : Int32) (([c0, c1] : List Int32).map Value.int) ds) (D1 : Arv Z h0 d1 kd .byte (2 : Int32) [(.int 0), (.int 0)] (.int 0)) (hne : s1 ≠ d1) (gd : n0 ≤ d1) (hbig : 255 < c0 ∨ 255 < c1) :
    own_Met l Z ws (⟨"java/lang/StringUTF16", "compress", "([CI[BII)I"⟩ : MethodName) jdk_52_method_21_code 7 (some .int) ({ frames := 0, cells := 0, slots := 0, locals := 0 } : Room) #[(.ref s1), (.int 0), (.ref d1), (.int 0), (.int 2)] h0 (fun v h L => ∃ k : Int32, v = some (.int k) ∧ Fr n0 L ∧ Keep h0 h [d1] ∧ ((k = 0 ∧ 255 < c0) ∨ (k = 1 ∧ 255 < c1))) := by
  refine own_body (plainFor_of_name pn_0) ?_
  intro p e s m below meth c s₁ hx hby hml hret hlk hown hnm hZ X0 e0
  have hml : c.maxLocals = 7 := hml
  have hown : s.vm.findClass "java/lang/StringUTF16" = some m.cls := hown
  have N0 := Fr.nil n0
  refine own_cast (efci2 m s1 (0 : Int32) d1 (0 : Int32) (2 : Int32)) ?_
  show oG p e below _ s₁ (mkF m 0 #[.val (.ref s1), .val (.int 0), .val (.ref d1), .val (.int 0), .val (.int 2), .unset, .unset] [])
  refine oS (fun t k => XS.iconst X0.here hx rfl (hb hby dci2_0) k) ?_
  refine oS (fun t k => XS.istore X0.here hx rfl (hb hby dci2_1) rfl (l' := #[.val (.ref s1), .val (.int 0), .val (.ref d1), .val (.int 0), .val (.int 2), .val (.int 0), .unset]) rfl k) ?_
  show oG p e below _ s₁ (mkF m 3 #[.val (.ref s1), .val (.int 0), .val (.ref d1), .val (.int 0), .val (.int 2), .val (.int 0), .unset] [])
  refine oS (fun t k => XS.iload X0.here hx rfl (hb hby dci2_3) rfl  k) ?_
  refine oS (fun t k => XS.iload X0.here hx rfl (hb hby dci2_5) rfl  k) ?_
  show oG p e below _ s₁ (mkF m 7 #[.val (.ref s1), .val (.int 0), .val (.ref d1), .val (.int 0), .val (.int 2), .val (.int 0), .unset] [(.int 2), (.int 0)])
  refine oS (fun t k => XS.icmpNo X0.here hx rfl (hb hby dci2_7) rfl (tlt (by decide : (0 : Int32) < (2 : Int32))).2.1 k) ?_
  show oG p e below _ s₁ (mkF m 10 #[.val (.ref s1), .val (.int 0), .val (.ref d1), .val (.int 0), .val (.int 2), .val (.int 0), .unset] [])
  refine oS (fun t k => XS.aloadN X0.here hx rfl (hb hby dci2_10) rfl rfl k) ?_
  refine oS (fun t k => XS.iloadN X0.here hx rfl (hb hby dci2_11) rfl  k) ?_
  show oG p e below _ s₁ (mkF m 12 #[.val (.ref s1), .val (.int 0), .val (.ref d1), .val (.int 0), .val (.int 2), .val (.int 0), .unset] [(.int 0), (.ref s1)])
  obtain ⟨cli0, Ari0, -, Si0, Mi0, Hi0, Gi0⟩ := id V1
  have hini0 : ¬ ((0 : Int32) < 0 ∨ cli0.slots.size ≤ ((0 : Int32)).toNatClampNeg) := inb_of Si0 ⟨by decide, by decide⟩
  refine oS (X0.caload hx (j := (0 : Int32)) (v := (.int c0)) (by rw [e0]; exact Ari0.1) (State.isArrayOf_alike hZ.alike Ari0.2.1) Ari0.2.2 hini0 (Has.at Hi0 hini0 rfl) (g := (mkF m 12 #[.val (.ref s1), .val (.int 0), .val (.ref d1), .val (.int 0), .val (.int 2), .val (.int 0), .unset] [(.int 0), (.ref s1)])) rfl rfl (hb hby dci2_12)) ?_
  show oG p e below _ s₁ (mkF m 13 #[.val (.ref s1), .val (.int 0), .val (.ref d1), .val (.int 0), .val (.int 2), .val (.int 0), .unset] [(.int c0)])
  refine oS (fun t k => XS.istore X0.here hx rfl (hb hby dci2_13) rfl (l' := #[.val (.ref s1), .val (.int 0), .val (.ref d1), .val (.int 0), .val (.int 2), .val (.int 0), .val (.int c0)]) rfl k) ?_
  show oG p e below _ s₁ (mkF m 15 #[.val (.ref s1), .val (.int 0), .val (.ref d1), .val (.int 0), .val (.int 2), .val (.int 0), .val (.int c0)] [])
  refine oS (fun t k => XS.iload X0.here hx rfl (hb hby dci2_15) rfl  k) ?_
  refine oS (fun t k => XS.sipush X0.here hx rfl (hb hby dci2_17) k) ?_
  show oG p e below _ s₁ (mkF m 20 #[.val (.ref s1), .val (.int 0), .val (.ref d1), .val (.int 0), .val (.int 2), .val (.int 0), .val (.int c0)] [(.int 255), (.int c0)])
  by_cases u0 : (255 : Int32) < c0
  · refine oS (fun t k => XS.icmpNo X0.here hx rfl (hb hby dci2_20) rfl (tlt u0).2.2.2 k) ?_
    show oG p e below _ s₁ (mkF m 23 #[.val (.ref s1), .val (.int 0), .val (.ref d1), .val (.int 0), .val (.int 2), .val (.int 0), .val (.int c0)] [])
    refine oS (fun t k => XS.iload X0.here hx rfl (hb hby dci2_23) rfl  k) ?_
    show oG p e below _ s₁ (mkF m 25 #[.val (.ref s1), .val (.int 0), .val (.ref d1), .val (.int 0), .val (.int 2), .val (.int 0), .val (.int c0)] [(.int 0)])
    refine own_retI X0 hx hlk hret (hb hby dci2_25) ?_ (by decide) (by decide)
    rw [e0]
    exact ⟨_, rfl, N0, (Keep.refl h0 [d1]), Or.inl ⟨rfl, u0⟩⟩
  · refine oS (fun t k => XS.icmpYes X0.here hx rfl (pc0 := 20) (pc' := 26) rfl (hb hby dci2_20) rfl (flt u0).2.2.2 (by decide) (by decide) k) ?_
    show oG p e below _ s₁ (mkF m 26 #[.val (.ref s1), .val (.int 0), .val (.ref d1), .val (.int 0), .val (.int 2), .val (.int 0), .val (.int c0)] [])
    refine oS (fun t k => XS.aloadN X0.here hx rfl (hb hby dci2_26) rfl rfl k) ?_
    refine oS (fun t k => XS.iloadN X0.here hx rfl (hb hby dci2_27) rfl  k) ?_
    refine oS (fun t k => XS.iload X0.here hx rfl (hb hby dci2_28) rfl  k) ?_
    refine oS (fun t k => XS.i2b X0.here hx rfl (hb hby dci2_30) rfl k) ?_
    show oG p e below _ s₁ (mkF m 31 #[.val (.ref s1), .val (.int 0), .val (.ref d1), .val (.int 0), .val (.int 2), .val (.int 0), .val (.int c0)] [(.int (c0.toInt8.toInt32)), (.int 0), (.ref d1)])
    obtain ⟨cls0, Ars0, qs0, Ss0, Ms0, Hs0, Gs0⟩ := D1
    have hins0 : ¬ ((0 : Int32) < 0 ∨ cls0.slots.size ≤ ((0 : Int32)).toNatClampNeg) := inb_of Ss0 ⟨by decide, by decide⟩
    obtain ⟨Ts0, hs0, Xs0, es0, Ws0, sts0⟩ := stB X0 hx hZ e0 Ars0 (j := (0 : Int32)) hins0 (g := (mkF m 31 #[.val (.ref s1), .val (.int 0), .val (.ref d1), .val (.int 0), .val (.int 2), .val (.int 0), .val (.int c0)] [(.int (c0.toInt8.toInt32)), (.int 0), (.ref d1)])) rfl rfl (hb hby dci2_31)
    refine oS sts0 ?_
    have Vs0 := Arv.set Ars0 qs0 Ss0 Ms0 Hs0 Gs0 (fits_nar_byte _) Ws0 0 rfl (Nat.le_of_ble_eq_true rfl)
    have Ns0 := Fr.snoc Xs0 N0 gd
    show oG p e below _ Ts0 (mkF m 32 #[.val (.ref s1), .val (.int 0), .val (.ref d1), .val (.int 0), .val (.int 2), .val (.int 0), .val (.int c0)] [])
    have KS0 := (Keep.refl h0 [d1]).wr Ws0 (Or.inl (List.mem_of_getElem? (i := 0) rfl))
    have VS0 := V1.other Ws0 hne
    refine oS (fun t k => XS.iinc Xs0.here hx rfl (hb hby dci2_32) rfl (l' := #[.val (.ref s1), .val (.int ((0 : Int32) + (1 : Int32))), .val (.ref d1), .val (.int 0), .val (.int 2), .val (.int 0), .val (.int c0)]) rfl k) ?_
    show oG p e below _ Ts0 (mkF m 35 #[.val (.ref s1), .val (.int ((0 : Int32) + (1 : Int32))), .val (.ref d1), .val (.int 0), .val (.int 2), .val (.int 0), .val (.int c0)] [])
    show oG p e below _ Ts0 (mkF m 35 #[.val (.ref s1), .val (.int 1), .val (.ref d1), .val (.int 0), .val (.int 2), .val (.int 0), .val (.int c0)] [])
    refine oS (fun t k => XS.iinc Xs0.here hx rfl (hb hby dci2_35) rfl (l' := #[.val (.ref s1), .val (.int 1), .val (.ref d1), .val (.int ((0 : Int32) + (1 : Int32))), .val (.int 2), .val (.int 0), .val (.int c0)]) rfl k) ?_
    show oG p e below _ Ts0 (mkF m 38 #[.val (.ref s1), .val (.int 1), .val (.ref d1), .val (.int ((0 : Int32) + (1 : Int32))), .val (.int 2), .val (.int 0), .val (.int c0)] [])
    show oG p e below _ Ts0 (mkF m 38 #[.val (.ref s1), .val (.int 1), .val (.ref d1), .val (.int 1), .val (.int 2), .val (.int 0), .val (.int c0)] [])
    refine oS (fun t k => XS.iinc Xs0.here hx rfl (hb hby dci2_38) rfl (l' := #[.val (.ref s1), .val (.int 1), .val (.ref d1), .val (.int 1), .val (.int 2), .val (.int ((0 : Int32) + (1 : Int32))), .val (.int c0)]) rfl k) ?_
    show oG p e below _ Ts0 (mkF m 41 #[.val (.ref s1), .val (.int 1), .val (.ref d1), .val (.int 1), .val (.int 2), .val (.int ((0 : Int32) + (1 : Int32))), .val (.int c0)] [])
    show oG p e below _ Ts0 (mkF m 41 #[.val (.ref s1), .val (.int 1), .val (.ref d1), .val (.int 1), .val (.int 2), .val (.int 1), .val (.int c0)] [])
    refine oS (fun t k => XS.goto Xs0.here hx rfl (pc0 := 41) (pc' := 3) rfl (hb hby dci2_41) (by decide) (by decide) k) ?_
    show oG p e below _ Ts0 (mkF m 3 #[.val (.ref s1), .val (.int 1), .val (.ref d1), .val (.int 1), .val (.int 2), .val (.int 1), .val (.int c0)] [])
    refine oS (fun t k => XS.iload Xs0.here hx rfl (hb hby dci2_3) rfl  k) ?_
    refine oS (fun t k => XS.iload Xs0.here hx rfl (hb hby dci2_5) rfl  k) ?_
    show oG p e below _ Ts0 (mkF m 7 #[.val (.ref s1), .val (.int 1), .val (.ref d1), .val (.int 1), .val (.int 2), .val (.int 1), .val (.int c0)] [(.int 2), (.int 1)])
    refine oS (fun t k => XS.icmpNo Xs0.here hx rfl (hb hby dci2_7) rfl (tlt (by decide : (1 : Int32) < (2 : Int32))).2.1 k) ?_
    show oG p e below _ Ts0 (mkF m 10 #[.val (.ref s1), .val (.int 1), .val (.ref d1), .val (.int 1), .val (.int 2), .val (.int 1), .val (.int c0)] [])
    refine oS (fun t k => XS.aloadN Xs0.here hx rfl (hb hby dci2_10) rfl rfl k) ?_
    refine oS (fun t k => XS.iloadN Xs0.here hx rfl (hb hby dci2_11) rfl  k) ?_
    show oG p e below _ Ts0 (mkF m 12 #[.val (.ref s1), .val (.int 1), .val (.ref d1), .val (.int 1), .val (.int 2), .val (.int 1), .val (.int c0)] [(.int 1), (.ref s1)])
    obtain ⟨cli1, Ari1, -, Si1, Mi1, Hi1, Gi1⟩ := id VS0
    have hini1 : ¬ ((1 : Int32) < 0 ∨ cli1.slots.size ≤ ((1 : Int32)).toNatClampNeg) := inb_of Si1 ⟨by decide, by decide⟩
    refine oS (Xs0.caload hx (j := (1 : Int32)) (v := (.int c1)) (by rw [es0]; exact Ari1.1) (State.isArrayOf_alike hZ.alike Ari1.2.1) Ari1.2.2 hini1 (Has.at Hi1 hini1 rfl) (g := (mkF m 12 #[.val (.ref s1), .val (.int 1), .val (.ref d1), .val (.int 1), .val (.int 2), .val (.int 1), .val (.int c0)] [(.int 1), (.ref s1)])) rfl rfl (hb hby dci2_12)) ?_
    show oG p e below _ Ts0 (mkF m 13 #[.val (.ref s1), .val (.int 1), .val (.ref d1), .val (.int 1), .val (.int 2), .val (.int 1), .val (.int c0)] [(.int c1)])
    refine oS (fun t k => XS.istore Xs0.here hx rfl (hb hby dci2_13) rfl (l' := #[.val (.ref s1), .val (.int 1), .val (.ref d1), .val (.int 1), .val (.int 2), .val (.int 1), .val (.int c1)]) rfl k) ?_
    show oG p e below _ Ts0 (mkF m 15 #[.val (.ref s1), .val (.int 1), .val (.ref d1), .val (.int 1), .val (.int 2), .val (.int 1), .val (.int c1)] [])
    refine oS (fun t k => XS.iload Xs0.here hx rfl (hb hby dci2_15) rfl  k) ?_
    refine oS (fun t k => XS.sipush Xs0.here hx rfl (hb hby dci2_17) k) ?_
    show oG p e below _ Ts0 (mkF m 20 #[.val (.ref s1), .val (.int 1), .val (.ref d1), .val (.int 1), .val (.int 2), .val (.int 1), .val (.int c1)] [(.int 255), (.int c1)])
    by_cases u1 : (255 : Int32) < c1
    · refine oS (fun t k => XS.icmpNo Xs0.here hx rfl (hb hby dci2_20) rfl (tlt u1).2.2.2 k) ?_
      show oG p e below _ Ts0 (mkF m 23 #[.val (.ref s1), .val (.int 1), .val (.ref d1), .val (.int 1), .val (.int 2), .val (.int 1), .val (.int c1)] [])
      refine oS (fun t k => XS.iload Xs0.here hx rfl (hb hby dci2_23) rfl  k) ?_
      show oG p e below _ Ts0 (mkF m 25 #[.val (.ref s1), .val (.int 1), .val (.ref d1), .val (.int 1), .val (.int 2), .val (.int 1), .val (.int c1)] [(.int 1)])
      refine own_retI Xs0 hx hlk hret (hb hby dci2_25) ?_ (by decide) (by decide)
      rw [es0]
      exact ⟨_, rfl, Ns0, KS0, Or.inr (⟨rfl, u1⟩)⟩
    · refine oS (fun t k => XS.icmpYes Xs0.here hx rfl (pc0 := 20) (pc' := 26) rfl (hb hby dci2_20) rfl (flt u1).2.2.2 (by decide) (by decide) k) ?_
      show oG p e below _ Ts0 (mkF m 26 #[.val (.ref s1), .val (.int 1), .val (.ref d1), .val (.int 1), .val (.int 2), .val (.int 1), .val (.int c1)] [])
      refine oS (fun t k => XS.aloadN Xs0.here hx rfl (hb hby dci2_26) rfl rfl k) ?_
      refine oS (fun t k => XS.iloadN Xs0.here hx rfl (hb hby dci2_27) rfl  k) ?_
      refine oS (fun t k => XS.iload Xs0.here hx rfl (hb hby dci2_28) rfl  k) ?_
      refine oS (fun t k => XS.i2b Xs0.here hx rfl (hb hby dci2_30) rfl k) ?_
      show oG p e below _ Ts0 (mkF m 31 #[.val (.ref s1), .val (.int 1), .val (.ref d1), .val (.int 1), .val (.int 2), .val (.int 1), .val (.int c1)] [(.int (c1.toInt8.toInt32)), (.int 1), (.ref d1)])
      obtain ⟨cls1, Ars1, qs1, Ss1, Ms1, Hs1, Gs1⟩ := Vs0
      have hins1 : ¬ ((1 : Int32) < 0 ∨ cls1.slots.size ≤ ((1 : Int32)).toNatClampNeg) := inb_of Ss1 ⟨by decide, by decide⟩
      obtain ⟨Ts1, hs1, Xs1, es1, Ws1, sts1⟩ := stB Xs0 hx hZ es0 Ars1 (j := (1 : Int32)) hins1 (g := (mkF m 31 #[.val (.ref s1), .val (.int 1), .val (.ref d1), .val (.int 1), .val (.int 2), .val (.int 1), .val (.int c1)] [(.int (c1.toInt8.toInt32)), (.int 1), (.ref d1)])) rfl rfl (hb hby dci2_31)
      refine oS sts1 ?_
      have Vs1 := Arv.set Ars1 qs1 Ss1 Ms1 Hs1 Gs1 (fits_nar_byte _) Ws1 1 rfl (Nat.le_of_ble_eq_true rfl)
      have Ns1 := Fr.snoc Xs1 Ns0 gd
      show oG p e below _ Ts1 (mkF m 32 #[.val (.ref s1), .val (.int 1), .val (.ref d1), .val (.int 1), .val (.int 2), .val (.int 1), .val (.int c1)] [])
      have KS1 := KS0.wr Ws1 (Or.inl (List.mem_of_getElem? (i := 0) rfl))
      have VS1 := VS0.other Ws1 hne
      refine oS (fun t k => XS.iinc Xs1.here hx rfl (hb hby dci2_32) rfl (l' := #[.val (.ref s1), .val (.int ((1 : Int32) + (1 : Int32))), .val (.ref d1), .val (.int 1), .val (.int 2), .val (.int 1), .val (.int c1)]) rfl k) ?_
      show oG p e below _ Ts1 (mkF m 35 #[.val (.ref s1), .val (.int ((1 : Int32) + (1 : Int32))), .val (.ref d1), .val (.int 1), .val (.int 2), .val (.int 1), .val (.int c1)] [])
      show oG p e below _ Ts1 (mkF m 35 #[.val (.ref s1), .val (.int 2), .val (.ref d1), .val (.int 1), .val (.int 2), .val (.int 1), .val (.int c1)] [])
      refine oS (fun t k => XS.iinc Xs1.here hx rfl (hb hby dci2_35) rfl (l' := #[.val (.ref s1), .val (.int 2), .val (.ref d1), .val (.int ((1 : Int32) + (1 : Int32))), .val (.int 2), .val (.int 1), .val (.int c1)]) rfl k) ?_
      show oG p e below _ Ts1 (mkF m 38 #[.val (.ref s1), .val (.int 2), .val (.ref d1), .val (.int ((1 : Int32) + (1 : Int32))), .val (.int 2), .val (.int 1), .val (.int c1)] [])
      show oG p e below _ Ts1 (mkF m 38 #[.val (.ref s1), .val (.int 2), .val (.ref d1), .val (.int 2), .val (.int 2), .val (.int 1), .val (.int c1)] [])
      refine oS (fun t k => XS.iinc Xs1.here hx rfl (hb hby dci2_38) rfl (l' := #[.val (.ref s1), .val (.int 2), .val (.ref d1), .val (.int 2), .val (.int 2), .val (.int ((1 : Int32) + (1 : Int32))), .val (.int c1)]) rfl k) ?_
      show oG p e below _ Ts1 (mkF m 41 #[.val (.ref s1), .val (.int 2), .val (.ref d1), .val (.int 2), .val (.int 2), .val (.int ((1 : Int32) + (1 : Int32))), .val (.int c1)] [])
      show oG p e below _ Ts1 (mkF m 41 #[.val (.ref s1), .val (.int 2), .val (.ref d1), .val (.int 2), .val (.int 2), .val (.int 2), .val (.int c1)] [])
      refine oS (fun t k => XS.goto Xs1.here hx rfl (pc0 := 41) (pc' := 3) rfl (hb hby dci2_41) (by decide) (by decide) k) ?_
      show oG p e below _ Ts1 (mkF m 3 #[.val (.ref s1), .val (.int 2), .val (.ref d1), .val (.int 2), .val (.int 2), .val (.int 2), .val (.int c1)] [])
      refine oS (fun t k => XS.iload Xs1.here hx rfl (hb hby dci2_3) rfl  k) ?_
      refine oS (fun t k => XS.iload Xs1.here hx rfl (hb hby dci2_5) rfl  k) ?_
      show oG p e below _ Ts1 (mkF m 7 #[.val (.ref s1), .val (.int 2), .val (.ref d1), .val (.int 2), .val (.int 2), .val (.int 2), .val (.int c1)] [(.int 2), (.int 2)])
      exact absurd hbig (by simp [u0, u1])
theorem dcm2_0 : decode jdk_52_method_16_code 0 = .ok (.iload_n 2, 1) := by decide +kernel
theorem dcm2_1 : decode jdk_52_method_16_code 1 = .ok (.newarray .byte, 2) := by decide +kernel
theorem dcm2_3 : decode jdk_52_method_16_code 3 = .ok (.astore_n 3, 1) := by decide +kernel
theorem dcm2_4 : decode jdk_52_method_16_code 4 = .ok (.aload_n 0, 1) := by decide +kernel
theorem dcm2_5 : decode jdk_52_method_16_code 5 = .ok (.iload_n 1, 1) := by decide +kernel
theorem dcm2_6 : decode jdk_52_method_16_code 6 = .ok (.aload_n 3, 1) := by decide +kernel
theorem dcm2_7 : decode jdk_52_method_16_code 7 = .ok (.iconst 0, 1) := by decide +kernel
theorem dcm2_8 : decode jdk_52_method_16_code 8 = .ok (.iload_n 2, 1) := by decide +kernel
theorem dcm2_9 : decode jdk_52_method_16_code 9 = .ok (.invokestatic 115, 3) := by decide +kernel
theorem dcm2_12 : decode jdk_52_method_16_code 12 = .ok (.istore 4, 2) := by decide +kernel
theorem dcm2_14 : decode jdk_52_method_16_code 14 = .ok (.iload 4, 2) := by decide +kernel
theorem dcm2_16 : decode jdk_52_method_16_code 16 = .ok (.iload_n 2, 1) := by decide +kernel
theorem dcm2_17 : decode jdk_52_method_16_code 17 = .ok (.if_icmp .eq 40, 3) := by decide +kernel
theorem dcm2_20 : decode jdk_52_method_16_code 20 = .ok (.aload_n 0, 1) := by decide +kernel
theorem dcm2_21 : decode jdk_52_method_16_code 21 = .ok (.iload_n 1, 1) := by decide +kernel
theorem dcm2_22 : decode jdk_52_method_16_code 22 = .ok (.iload_n 2, 1) := by decide +kernel
theorem dcm2_23 : decode jdk_52_method_16_code 23 = .ok (.invokestatic 119, 3) := by decide +kernel
theorem dcm2_26 : decode jdk_52_method_16_code 26 = .ok (.astore 5, 2) := by decide +kernel
theorem dcm2_28 : decode jdk_52_method_16_code 28 = .ok (.aload 5, 2) := by decide +kernel
theorem dcm2_30 : decode jdk_52_method_16_code 30 = .ok (.iload 4, 2) := by decide +kernel
theorem dcm2_32 : decode jdk_52_method_16_code 32 = .ok (.invokestatic 71, 3) := by decide +kernel
theorem dcm2_35 : decode jdk_52_method_16_code 35 = .ok (.sipush 255, 3) := by decide +kernel
theorem dcm2_38 : decode jdk_52_method_16_code 38 = .ok (.if_icmp .gt 16, 3) := by decide +kernel
theorem dcm2_41 : decode jdk_52_method_16_code 41 = .ok (.aload 5, 2) := by decide +kernel
theorem dcm2_43 : decode jdk_52_method_16_code 43 = .ok (.iconst 0, 1) := by decide +kernel
theorem dcm2_44 : decode jdk_52_method_16_code 44 = .ok (.aload_n 3, 1) := by decide +kernel
theorem dcm2_45 : decode jdk_52_method_16_code 45 = .ok (.iconst 0, 1) := by decide +kernel
theorem dcm2_46 : decode jdk_52_method_16_code 46 = .ok (.iload_n 2, 1) := by decide +kernel
theorem dcm2_47 : decode jdk_52_method_16_code 47 = .ok (.invokestatic 123, 3) := by decide +kernel
theorem dcm2_50 : decode jdk_52_method_16_code 50 = .ok (.iload_n 2, 1) := by decide +kernel
theorem dcm2_51 : decode jdk_52_method_16_code 51 = .ok (.if_icmp .eq 6, 3) := by decide +kernel
theorem dcm2_54 : decode jdk_52_method_16_code 54 = .ok (.aload 5, 2) := by decide +kernel
theorem dcm2_56 : decode jdk_52_method_16_code 56 = .ok (.areturn, 1) := by decide +kernel
theorem dcm2_57 : decode jdk_52_method_16_code 57 = .ok (.aload_n 3, 1) := by decide +kernel
theorem dcm2_58 : decode jdk_52_method_16_code 58 = .ok (.areturn, 1) := by decide +kernel
theorem efcm2 (m : MethodId) (x0 : Addr) (x1 : Int32) (x2 : Int32) : entryFrame m #[(.ref x0), (.int x1), (.int x2)] 6 = mkF m 0 #[.val (.ref x0), .val (.int x1), .val (.int x2), .unset, .unset, .unset] [] := by first | (simp [entryFrame, mkF, argsToLocals, Value.category]; done) | rfl
set_option maxRecDepth 65536 in
set_option maxHeartbeats 40000000 in
theorem rm_cm2 (l : Launch) (Z : State) (a0 : Array Value) (hw : ∀ d ∈ tables_1, d.before a0 Z = true) (ws : List Jvm.Cond) (s1 : Addr) (ks : ClassId) (ds : Value) (c0 : Int32) (c1 : Int32) (h0 : Heap) (n0 : Nat) (Z0 : n0 ≤ h0.size) (V1 : Arv Z h0 s1 ks .char (2 : Int32) (([c0, c1] : List Int32).map Value.int) ds) (hbig : 255 < c0 ∨ 255 < c1) (hr : ∀ c ∈ ([c0, c1] : List Int32), ¬ c < 0 ∧ ¬ (65535 : Int32) < c) (SA : Sta Z h0 "java/lang/StringUTF16" "$assertionsDisabled" "Z" (.int 1)) (SH : Sta Z h0 "java/lang/StringUTF16" "HI_BYTE_SHIFT" "I" (.int 0)) (SL : Sta Z h0 "java/lang/StringUTF16" "LO_BYTE_SHIFT" "I" (.int 8)) :
    own_Met l Z ws (⟨"java/lang/StringUTF16", "compress", "([CII)[B"⟩ : MethodName) jdk_52_method_16_code 6 (some (.array .byte)) ({ frames := 3, cells := 2, slots := 6, locals := 50 } : Room) #[(.ref s1), (.int 0), (.int 2)] h0 (fun v h L => ∃ (b : Addr) (kb : ClassId), v = some (.ref b) ∧ Fr n0 L ∧ Keep h0 h [] ∧ n0 ≤ b ∧ h0.size ≤ b ∧ Arv Z h b kb .byte (4 : Int32) (StrChars.Road.wideBytes ([c0, c1] : List Int32)) (.int 0)) := by
  refine own_body (plainFor_of_name pn_0) ?_
  intro p e s m below meth c s₁ hx hby hml hret hlk hown hnm hZ X0 e0
  have hml : c.maxLocals = 6 := hml
  have hown : s.vm.findClass "java/lang/StringUTF16" = some m.cls := hown
  have N0 := Fr.nil n0
  refine own_cast (efcm2 m s1 (0 : Int32) (2 : Int32)) ?_
  show oG p e below _ s₁ (mkF m 0 #[.val (.ref s1), .val (.int 0), .val (.int 2), .unset, .unset, .unset] [])
  refine oS (fun t k => XS.iloadN X0.here hx rfl (hb hby dcm2_0) rfl  k) ?_
  show oG p e below _ s₁ (mkF m 1 #[.val (.ref s1), .val (.int 0), .val (.int 2), .unset, .unset, .unset] [(.int 2)])
  obtain ⟨T1, h1, k1, X1, e1, E1, A1, st1⟩ := newP X0 hx hZ (oW hw 15 rfl) e0 (g := (mkF m 1 #[.val (.ref s1), .val (.int 0), .val (.int 2), .unset, .unset, .unset] [(.int 2)])) rfl (hb hby dcm2_1) rfl (by decide) (cap := 2) (by decide) (by decide) (by decide) (by decide)
  obtain ⟨b1, g1⟩ : ∃ z, z = h0.size := ⟨_, rfl⟩
  rw [← g1] at A1 st1
  have V1' : Arv Z h1 b1 k1 .byte (2 : Int32) [(.int 0), (.int 0)] (.int 0) := (Arv.new A1 (by decide)).pad (pad_rep [] (.int 0) 2)
  refine oS st1 ?_
  show oG p e below _ T1 (mkF m 3 #[.val (.ref s1), .val (.int 0), .val (.int 2), .unset, .unset, .unset] [(.ref b1)])
  have Z1 : n0 ≤ h1.size := Nat.le_trans Z0 E1.1
  have g0 : n0 ≤ b1 := Nat.le_trans Z0 (Nat.le_of_eq g1.symm)
  have ne : s1 ≠ b1 := Nat.ne_of_lt (Nat.lt_of_lt_of_le V1.lt (Nat.le_of_eq g1.symm))
  have zb : h0.size ≤ b1 := Nat.le_of_eq g1.symm
  refine oS (fun t k => XS.astoreN X1.here hx rfl (hb hby dcm2_3) rfl rfl (l' := #[.val (.ref s1), .val (.int 0), .val (.int 2), .val (.ref b1), .unset, .unset]) rfl k) ?_
  show oG p e below _ T1 (mkF m 4 #[.val (.ref s1), .val (.int 0), .val (.int 2), .val (.ref b1), .unset, .unset] [])
  refine oS (fun t k => XS.aloadN X1.here hx rfl (hb hby dcm2_4) rfl rfl k) ?_
  refine oS (fun t k => XS.iloadN X1.here hx rfl (hb hby dcm2_5) rfl  k) ?_
  refine oS (fun t k => XS.aloadN X1.here hx rfl (hb hby dcm2_6) rfl rfl k) ?_
  refine oS (fun t k => XS.iconst X1.here hx rfl (hb hby dcm2_7) k) ?_
  refine oS (fun t k => XS.iloadN X1.here hx rfl (hb hby dcm2_8) rfl  k) ?_
  show oG p e below _ T1 (mkF m 9 #[.val (.ref s1), .val (.int 0), .val (.int 2), .val (.ref b1), .unset, .unset] [(.int 2), (.int 0), (.ref b1), (.int 0), (.ref s1)])
  refine own_callS X1 hx hZ (y := (⟨"java/lang/StringUTF16", "compress", "([CI[BII)I"⟩ : MethodName)) (W := 0) (kc := 0) (ks := 0) hown (oW hw 36 rfl) (oW hw 37 rfl) (oW hw 34 rfl) (oW hw 38 rfl) (own_back (W := 0) (rm_ci2 l Z a0 hw [] s1 b1 ks k1 ds c0 c1 h1 n0 Z1 (V1.ext E1) V1' ne g0 hbig) hZ (oW hw 38 rfl) (oW hw 34 rfl) (by decide) (by decide)) (by decide) (g := (mkF m 9 #[.val (.ref s1), .val (.int 0), .val (.int 2), .val (.ref b1), .unset, .unset] [(.int 2), (.int 0), (.ref b1), (.int 0), (.ref s1)])) rfl (by rw [hml]; rfl) (argsL := [(.ref s1), (.int 0), (.ref b1), (.int 0), (.int 2)]) (rest := []) (lenOf pd_9 rfl) rfl (by show 2 * 0 + _ ≤ _; exact Nat.le_of_eq rfl) (hb hby dcm2_9) rfl e1 (by decide) (by decide) (fun v9 T9 L9 X9 hQ9 => ?_)
  obtain ⟨kx, rfl, M9, K9, hk⟩ := hQ9
  have N9 := Fr.app N0 M9
  have KK9 : Keep h0 T9.heap [] := ((Keep.refl h0 []).ext E1).trans K9 (allS (Or.inr zb) all0)
  have Z9 : n0 ≤ T9.heap.size := Nat.le_trans Z1 K9.1
  have V9 := V1.keep KK9 nin0
  have SA9 := own_staK0 SA KK9
  have SH9 := own_staK0 SH KK9
  have SL9 := own_staK0 SL KK9
  show oG p e below _ T9 (mkF m 12 #[.val (.ref s1), .val (.int 0), .val (.int 2), .val (.ref b1), .unset, .unset] [(.int kx)])
  refine oS (fun t k => XS.istore X9.here hx rfl (hb hby dcm2_12) rfl (l' := #[.val (.ref s1), .val (.int 0), .val (.int 2), .val (.ref b1), .val (.int kx), .unset]) rfl k) ?_
  show oG p e below _ T9 (mkF m 14 #[.val (.ref s1), .val (.int 0), .val (.int 2), .val (.ref b1), .val (.int kx), .unset] [])
  refine oS (fun t k => XS.iload X9.here hx rfl (hb hby dcm2_14) rfl  k) ?_
  refine oS (fun t k => XS.iloadN X9.here hx rfl (hb hby dcm2_16) rfl  k) ?_
  show oG p e below _ T9 (mkF m 17 #[.val (.ref s1), .val (.int 0), .val (.int 2), .val (.ref b1), .val (.int kx), .unset] [(.int 2), (.int kx)])
  rcases hk with ⟨rfl, hk⟩ | ⟨rfl, hk⟩
  · show oG p e below _ T9 (mkF m 17 #[.val (.ref s1), .val (.int 0), .val (.int 2), .val (.ref b1), .val (.int 0), .unset] [(.int 2), (.int 0)])
    refine oS (fun t k => XS.icmpNo X9.here hx rfl (hb hby dcm2_17) rfl (feq (by decide : ¬ (0 : Int32) = (2 : Int32))).1 k) ?_
    show oG p e below _ T9 (mkF m 20 #[.val (.ref s1), .val (.int 0), .val (.int 2), .val (.ref b1), .val (.int 0), .unset] [])
    refine oS (fun t k => XS.aloadN X9.here hx rfl (hb hby dcm2_20) rfl rfl k) ?_
    refine oS (fun t k => XS.iloadN X9.here hx rfl (hb hby dcm2_21) rfl  k) ?_
    refine oS (fun t k => XS.iloadN X9.here hx rfl (hb hby dcm2_22) rfl  k) ?_
    show oG p e below _ T9 (mkF m 23 #[.val (.ref s1), .val (.int 0), .val (.int 2), .val (.ref b1), .val (.int 0), .unset] [(.int 2), (.int 0), (.ref s1)])
    refine own_callS X9 hx hZ (y := (⟨"java/lang/StringUTF16", "toBytes", "([CII)[B"⟩ : MethodName)) (W := 0) (kc := 1) (ks := 4) hown (oW hw 80 rfl) (oW hw 81 rfl) (oW hw 34 rfl) (oW hw 82 rfl) (own_back (W := 0) (rm_tb2 l Z a0 hw [] s1 ks ds c0 c1 T9.heap n0 Z9 V9 SA9 SH9 SL9) hZ (oW hw 82 rfl) (oW hw 34 rfl) (by decide) (by decide)) (by decide) (g := (mkF m 23 #[.val (.ref s1), .val (.int 0), .val (.int 2), .val (.ref b1), .val (.int 0), .unset] [(.int 2), (.int 0), (.ref s1)])) rfl (by rw [hml]; rfl) (argsL := [(.ref s1), (.int 0), (.int 2)]) (rest := []) (lenOf pd_10 rfl) rfl (by show 2 * 0 + _ ≤ _; exact Nat.le_of_eq rfl) (hb hby dcm2_23) rfl rfl (by decide) (by decide) (fun v23 T23 L23 X23 hQ23 => ?_)
    obtain ⟨kb, rfl, M23, K23, B23⟩ := hQ23
    have N23 := Fr.app N9 M23
    have KK23 : Keep h0 T23.heap [] := KK9.trans K23 all0
    have Z23 : n0 ≤ T23.heap.size := Nat.le_trans Z9 K23.1
    have SA23 := own_staK0 SA9 K23
    have SH23 := own_staK0 SH9 K23
    have SL23 := own_staK0 SL9 K23
    show oG p e below _ T23 (mkF m 26 #[.val (.ref s1), .val (.int 0), .val (.int 2), .val (.ref b1), .val (.int 0), .unset] [(.ref T9.heap.size)])
    refine oS (fun t k => XS.astore X23.here hx rfl (hb hby dcm2_26) rfl rfl (l' := #[.val (.ref s1), .val (.int 0), .val (.int 2), .val (.ref b1), .val (.int 0), .val (.ref T9.heap.size)]) rfl k) ?_
    show oG p e below _ T23 (mkF m 28 #[.val (.ref s1), .val (.int 0), .val (.int 2), .val (.ref b1), .val (.int 0), .val (.ref T9.heap.size)] [])
    refine oS (fun t k => XS.aload X23.here hx rfl (hb hby dcm2_28) rfl rfl k) ?_
    refine oS (fun t k => XS.iload X23.here hx rfl (hb hby dcm2_30) rfl  k) ?_
    show oG p e below _ T23 (mkF m 32 #[.val (.ref s1), .val (.int 0), .val (.int 2), .val (.ref b1), .val (.int 0), .val (.ref T9.heap.size)] [(.int 0), (.ref T9.heap.size)])
    refine own_callS X23 hx hZ (y := (⟨"java/lang/StringUTF16", "getChar", "([BI)C"⟩ : MethodName)) (W := 0) (kc := 0) (ks := 0) hown (oW hw 96 rfl) (oW hw 97 rfl) (oW hw 34 rfl) (oW hw 98 rfl) (own_back (W := 0) (rm_gc l Z a0 hw [] T9.heap.size 0 kb ([c0, c1] : List Int32) T23.heap n0 Z23 B23 (Nat.le_of_ble_eq_true rfl) hr (Nat.le_of_ble_eq_true rfl) SA23 SH23 SL23) hZ (oW hw 98 rfl) (oW hw 34 rfl) (by decide) (by decide)) (by decide) (g := (mkF m 32 #[.val (.ref s1), .val (.int 0), .val (.int 2), .val (.ref b1), .val (.int 0), .val (.ref T9.heap.size)] [(.int 0), (.ref T9.heap.size)])) rfl (by rw [hml]; rfl) (argsL := [(.ref T9.heap.size), (.int 0)]) (rest := []) (lenOf pd_4 rfl) rfl (by show 2 * 0 + _ ≤ _; exact Nat.le_of_eq rfl) (hb hby dcm2_32) rfl rfl (by decide) (by decide) (fun v32 T32 L32 X32 hQ32 => ?_)
    obtain ⟨rfl, M32, e32⟩ := hQ32
    have N32 := Fr.app N23 M32
    show oG p e below _ T32 (mkF m 35 #[.val (.ref s1), .val (.int 0), .val (.int 2), .val (.ref b1), .val (.int 0), .val (.ref T9.heap.size)] [(.int c0)])
    refine oS (fun t k => XS.sipush X32.here hx rfl (hb hby dcm2_35) k) ?_
    show oG p e below _ T32 (mkF m 38 #[.val (.ref s1), .val (.int 0), .val (.int 2), .val (.ref b1), .val (.int 0), .val (.ref T9.heap.size)] [(.int 255), (.int c0)])
    refine oS (fun t k => XS.icmpYes X32.here hx rfl (pc0 := 38) (pc' := 54) rfl (hb hby dcm2_38) rfl (tlt hk).2.2.1 (by decide) (by decide) k) ?_
    show oG p e below _ T32 (mkF m 54 #[.val (.ref s1), .val (.int 0), .val (.int 2), .val (.ref b1), .val (.int 0), .val (.ref T9.heap.size)] [])
    refine oS (fun t k => XS.aload X32.here hx rfl (hb hby dcm2_54) rfl rfl k) ?_
    show oG p e below _ T32 (mkF m 56 #[.val (.ref s1), .val (.int 0), .val (.int 2), .val (.ref b1), .val (.int 0), .val (.ref T9.heap.size)] [(.ref T9.heap.size)])
    refine own_retA X32 hx hlk hret rfl rfl (hb hby dcm2_56) ?_ (by decide) (by decide)
    rw [e32]
    exact ⟨_, kb, rfl, N32, KK23, Z9, KK9.1, B23⟩
  · show oG p e below _ T9 (mkF m 17 #[.val (.ref s1), .val (.int 0), .val (.int 2), .val (.ref b1), .val (.int 1), .unset] [(.int 2), (.int 1)])
    refine oS (fun t k => XS.icmpNo X9.here hx rfl (hb hby dcm2_17) rfl (feq (by decide : ¬ (1 : Int32) = (2 : Int32))).1 k) ?_
    show oG p e below _ T9 (mkF m 20 #[.val (.ref s1), .val (.int 0), .val (.int 2), .val (.ref b1), .val (.int 1), .unset] [])
    refine oS (fun t k => XS.aloadN X9.here hx rfl (hb hby dcm2_20) rfl rfl k) ?_
    refine oS (fun t k => XS.iloadN X9.here hx rfl (hb hby dcm2_21) rfl  k) ?_
    refine oS (fun t k => XS.iloadN X9.here hx rfl (hb hby dcm2_22) rfl  k) ?_
    show oG p e below _ T9 (mkF m 23 #[.val (.ref s1), .val (.int 0), .val (.int 2), .val (.ref b1), .val (.int 1), .unset] [(.int 2), (.int 0), (.ref s1)])
    refine own_callS X9 hx hZ (y := (⟨"java/lang/StringUTF16", "toBytes", "([CII)[B"⟩ : MethodName)) (W := 0) (kc := 1) (ks := 4) hown (oW hw 80 rfl) (oW hw 81 rfl) (oW hw 34 rfl) (oW hw 82 rfl) (own_back (W := 0) (rm_tb2 l Z a0 hw [] s1 ks ds c0 c1 T9.heap n0 Z9 V9 SA9 SH9 SL9) hZ (oW hw 82 rfl) (oW hw 34 rfl) (by decide) (by decide)) (by decide) (g := (mkF m 23 #[.val (.ref s1), .val (.int 0), .val (.int 2), .val (.ref b1), .val (.int 1), .unset] [(.int 2), (.int 0), (.ref s1)])) rfl (by rw [hml]; rfl) (argsL := [(.ref s1), (.int 0), (.int 2)]) (rest := []) (lenOf pd_10 rfl) rfl (by show 2 * 0 + _ ≤ _; exact Nat.le_of_eq rfl) (hb hby dcm2_23) rfl rfl (by decide) (by decide) (fun v23 T23 L23 X23 hQ23 => ?_)
    obtain ⟨kb, rfl, M23, K23, B23⟩ := hQ23
    have N23 := Fr.app N9 M23
    have KK23 : Keep h0 T23.heap [] := KK9.trans K23 all0
    have Z23 : n0 ≤ T23.heap.size := Nat.le_trans Z9 K23.1
    have SA23 := own_staK0 SA9 K23
    have SH23 := own_staK0 SH9 K23
    have SL23 := own_staK0 SL9 K23
    show oG p e below _ T23 (mkF m 26 #[.val (.ref s1), .val (.int 0), .val (.int 2), .val (.ref b1), .val (.int 1), .unset] [(.ref T9.heap.size)])
    refine oS (fun t k => XS.astore X23.here hx rfl (hb hby dcm2_26) rfl rfl (l' := #[.val (.ref s1), .val (.int 0), .val (.int 2), .val (.ref b1), .val (.int 1), .val (.ref T9.heap.size)]) rfl k) ?_
    show oG p e below _ T23 (mkF m 28 #[.val (.ref s1), .val (.int 0), .val (.int 2), .val (.ref b1), .val (.int 1), .val (.ref T9.heap.size)] [])
    refine oS (fun t k => XS.aload X23.here hx rfl (hb hby dcm2_28) rfl rfl k) ?_
    refine oS (fun t k => XS.iload X23.here hx rfl (hb hby dcm2_30) rfl  k) ?_
    show oG p e below _ T23 (mkF m 32 #[.val (.ref s1), .val (.int 0), .val (.int 2), .val (.ref b1), .val (.int 1), .val (.ref T9.heap.size)] [(.int 1), (.ref T9.heap.size)])
    refine own_callS X23 hx hZ (y := (⟨"java/lang/StringUTF16", "getChar", "([BI)C"⟩ : MethodName)) (W := 0) (kc := 0) (ks := 0) hown (oW hw 96 rfl) (oW hw 97 rfl) (oW hw 34 rfl) (oW hw 98 rfl) (own_back (W := 0) (rm_gc l Z a0 hw [] T9.heap.size 1 kb ([c0, c1] : List Int32) T23.heap n0 Z23 B23 (Nat.le_of_ble_eq_true rfl) hr (Nat.le_of_ble_eq_true rfl) SA23 SH23 SL23) hZ (oW hw 98 rfl) (oW hw 34 rfl) (by decide) (by decide)) (by decide) (g := (mkF m 32 #[.val (.ref s1), .val (.int 0), .val (.int 2), .val (.ref b1), .val (.int 1), .val (.ref T9.heap.size)] [(.int 1), (.ref T9.heap.size)])) rfl (by rw [hml]; rfl) (argsL := [(.ref T9.heap.size), (.int 1)]) (rest := []) (lenOf pd_4 rfl) rfl (by show 2 * 0 + _ ≤ _; exact Nat.le_of_eq rfl) (hb hby dcm2_32) rfl rfl (by decide) (by decide) (fun v32 T32 L32 X32 hQ32 => ?_)
    obtain ⟨rfl, M32, e32⟩ := hQ32
    have N32 := Fr.app N23 M32
    show oG p e below _ T32 (mkF m 35 #[.val (.ref s1), .val (.int 0), .val (.int 2), .val (.ref b1), .val (.int 1), .val (.ref T9.heap.size)] [(.int c1)])
    refine oS (fun t k => XS.sipush X32.here hx rfl (hb hby dcm2_35) k) ?_
    show oG p e below _ T32 (mkF m 38 #[.val (.ref s1), .val (.int 0), .val (.int 2), .val (.ref b1), .val (.int 1), .val (.ref T9.heap.size)] [(.int 255), (.int c1)])
    refine oS (fun t k => XS.icmpYes X32.here hx rfl (pc0 := 38) (pc' := 54) rfl (hb hby dcm2_38) rfl (tlt hk).2.2.1 (by decide) (by decide) k) ?_
    show oG p e below _ T32 (mkF m 54 #[.val (.ref s1), .val (.int 0), .val (.int 2), .val (.ref b1), .val (.int 1), .val (.ref T9.heap.size)] [])
    refine oS (fun t k => XS.aload X32.here hx rfl (hb hby dcm2_54) rfl rfl k) ?_
    show oG p e below _ T32 (mkF m 56 #[.val (.ref s1), .val (.int 0), .val (.int 2), .val (.ref b1), .val (.int 1), .val (.ref T9.heap.size)] [(.ref T9.heap.size)])
    refine own_retA X32 hx hlk hret rfl rfl (hb hby dcm2_56) ?_ (by decide) (by decide)
    rw [e32]
    exact ⟨_, kb, rfl, N32, KK23, Z9, KK9.1, B23⟩
theorem dcf2_0 : decode jdk_52_method_15_code 0 = .ok (.iload_n 1, 1) := by decide +kernel
theorem dcf2_1 : decode jdk_52_method_15_code 1 = .ok (.aload_n 0, 1) := by decide +kernel
theorem dcf2_2 : decode jdk_52_method_15_code 2 = .ok (.arraylength, 1) := by decide +kernel
theorem dcf2_3 : decode jdk_52_method_15_code 3 = .ok (.isub, 1) := by decide +kernel
theorem dcf2_4 : decode jdk_52_method_15_code 4 = .ok (.bipush 31, 2) := by decide +kernel
theorem dcf2_6 : decode jdk_52_method_15_code 6 = .ok (.iushr, 1) := by decide +kernel
theorem dcf2_7 : decode jdk_52_method_15_code 7 = .ok (.i2b, 1) := by decide +kernel
theorem dcf2_8 : decode jdk_52_method_15_code 8 = .ok (.ireturn, 1) := by decide +kernel
theorem efcf2 (m : MethodId) (x0 : Addr) (x1 : Int32) : entryFrame m #[(.ref x0), (.int x1)] 2 = mkF m 0 #[.val (.ref x0), .val (.int x1)] [] := by first | (simp [entryFrame, mkF, argsToLocals, Value.category]; done) | rfl
set_option maxRecDepth 65536 in
set_option maxHeartbeats 40000000 in
theorem rm_cf2 (l : Launch) (Z : State) (a0 : Array Value) (hw : ∀ d ∈ tables_1, d.before a0 Z = true) (ws : List Jvm.Cond) (b1 : Addr) (kb : ClassId) (vs : List Value) (d : Value) (h0 : Heap) (n0 : Nat) (Z0 : n0 ≤ h0.size) (V1 : Arv Z h0 b1 kb .byte (4 : Int32) vs d) :
    own_Met l Z ws (⟨"java/lang/StringUTF16", "coderFromArrayLen", "([BI)B"⟩ : MethodName) jdk_52_method_15_code 2 (some .byte) ({ frames := 0, cells := 0, slots := 0, locals := 0 } : Room) #[(.ref b1), (.int 2)] h0 (fun v h L => v = some (.int 1) ∧ Fr n0 L ∧ h = h0) := by
  refine own_body (plainFor_of_name pn_0) ?_
  intro p e s m below meth c s₁ hx hby hml hret hlk hown hnm hZ X0 e0
  have hml : c.maxLocals = 2 := hml
  have hown : s.vm.findClass "java/lang/StringUTF16" = some m.cls := hown
  have N0 := Fr.nil n0
  refine own_cast (efcf2 m b1 (2 : Int32)) ?_
  show oG p e below _ s₁ (mkF m 0 #[.val (.ref b1), .val (.int 2)] [])
  refine oS (fun t k => XS.iloadN X0.here hx rfl (hb hby dcf2_0) rfl  k) ?_
  refine oS (fun t k => XS.aloadN X0.here hx rfl (hb hby dcf2_1) rfl rfl k) ?_
  show oG p e below _ s₁ (mkF m 2 #[.val (.ref b1), .val (.int 2)] [(.ref b1), (.int 2)])
  obtain ⟨cl2, Ar2, -, S2, M2, -, -⟩ := id V1
  refine oS (X0.arraylength hx (by rw [e0]; exact Ar2.1) (State.isArrayOf_alike hZ.alike Ar2.2.1) (g := (mkF m 2 #[.val (.ref b1), .val (.int 2)] [(.ref b1), (.int 2)])) rfl rfl (hb hby dcf2_2)) ?_
  rw [len_of S2 M2]
  show oG p e below _ s₁ (mkF m 3 #[.val (.ref b1), .val (.int 2)] [(.int 4), (.int 2)])
  refine oS (fun t k => XS.isub X0.here hx rfl (hb hby dcf2_3) rfl k) ?_
  show oG p e below _ s₁ (mkF m 4 #[.val (.ref b1), .val (.int 2)] [(.int ((2 : Int32) - (4 : Int32)))])
  refine oS (fun t k => XS.bipush X0.here hx rfl (hb hby dcf2_4) k) ?_
  refine oS (fun t k => XS.iushr X0.here hx rfl (hb hby dcf2_6) rfl k) ?_
  show oG p e below _ s₁ (mkF m 7 #[.val (.ref b1), .val (.int 2)] [(.int ((((2 : Int32) - (4 : Int32)).toUInt32 >>> ((31 : Int32) &&& 31).toUInt32).toInt32))])
  refine oS (fun t k => XS.i2b X0.here hx rfl (hb hby dcf2_7) rfl k) ?_
  show oG p e below _ s₁ (mkF m 8 #[.val (.ref b1), .val (.int 2)] [(.int (((((2 : Int32) - (4 : Int32)).toUInt32 >>> ((31 : Int32) &&& 31).toUInt32).toInt32).toInt8.toInt32))])
  rw [(by decide : (((((2 : Int32) - (4 : Int32)).toUInt32 >>> ((31 : Int32) &&& 31).toUInt32).toInt32).toInt8.toInt32) = (1 : Int32))]
  show oG p e below _ s₁ (mkF m 8 #[.val (.ref b1), .val (.int 2)] [(.int 1)])
  refine own_retN (t := .byte) X0 hx hlk hret (by simp) (hb hby dcf2_8) ?_ (by decide) (by decide)
  rw [e0]
  exact ⟨rfl, N0, rfl⟩
theorem own_big2 {c0 c1 : Int32} (h : 255 < c0 ∨ 255 < c1) : ∃ c ∈ ([c0, c1] : List Int32), 255 < c := by
  simp only [List.mem_cons, List.not_mem_nil, or_false]
  rcases h with h | h
  · exact ⟨c0, Or.inl rfl, h⟩
  · exact ⟨c1, Or.inr (rfl), h⟩
theorem dsv2_0 : decode jdk_42_method_149_code 0 = .ok (.aload_n 0, 1) := by decide +kernel
theorem dsv2_1 : decode jdk_42_method_149_code 1 = .ok (.invokespecial 1, 3) := by decide +kernel
theorem dsv2_4 : decode jdk_42_method_149_code 4 = .ok (.iload_n 3, 1) := by decide +kernel
theorem dsv2_5 : decode jdk_42_method_149_code 5 = .ok (.ifCond .ne 22, 3) := by decide +kernel
theorem dsv2_8 : decode jdk_42_method_149_code 8 = .ok (.aload_n 0, 1) := by decide +kernel
theorem dsv2_9 : decode jdk_42_method_149_code 9 = .ok (.ldc 7, 2) := by decide +kernel
theorem dsv2_11 : decode jdk_42_method_149_code 11 = .ok (.getfield 9, 3) := by decide +kernel
theorem dsv2_14 : decode jdk_42_method_149_code 14 = .ok (.putfield 9, 3) := by decide +kernel
theorem dsv2_17 : decode jdk_42_method_149_code 17 = .ok (.aload_n 0, 1) := by decide +kernel
theorem dsv2_18 : decode jdk_42_method_149_code 18 = .ok (.ldc 7, 2) := by decide +kernel
theorem dsv2_20 : decode jdk_42_method_149_code 20 = .ok (.getfield 15, 3) := by decide +kernel
theorem dsv2_23 : decode jdk_42_method_149_code 23 = .ok (.putfield 15, 3) := by decide +kernel
theorem dsv2_26 : decode jdk_42_method_149_code 26 = .ok (.return_, 1) := by decide +kernel
theorem dsv2_27 : decode jdk_42_method_149_code 27 = .ok (.getstatic 38, 3) := by decide +kernel
theorem dsv2_30 : decode jdk_42_method_149_code 30 = .ok (.ifCond .eq 28, 3) := by decide +kernel
theorem dsv2_33 : decode jdk_42_method_149_code 33 = .ok (.aload_n 1, 1) := by decide +kernel
theorem dsv2_34 : decode jdk_42_method_149_code 34 = .ok (.iload_n 2, 1) := by decide +kernel
theorem dsv2_35 : decode jdk_42_method_149_code 35 = .ok (.iload_n 3, 1) := by decide +kernel
theorem dsv2_36 : decode jdk_42_method_149_code 36 = .ok (.invokestatic 177, 3) := by decide +kernel
theorem dsv2_39 : decode jdk_42_method_149_code 39 = .ok (.astore 5, 2) := by decide +kernel
theorem dsv2_41 : decode jdk_42_method_149_code 41 = .ok (.aload_n 0, 1) := by decide +kernel
theorem dsv2_42 : decode jdk_42_method_149_code 42 = .ok (.aload 5, 2) := by decide +kernel
theorem dsv2_44 : decode jdk_42_method_149_code 44 = .ok (.iload_n 3, 1) := by decide +kernel
theorem dsv2_45 : decode jdk_42_method_149_code 45 = .ok (.invokestatic 47, 3) := by decide +kernel
theorem dsv2_48 : decode jdk_42_method_149_code 48 = .ok (.putfield 15, 3) := by decide +kernel
theorem dsv2_51 : decode jdk_42_method_149_code 51 = .ok (.aload_n 0, 1) := by decide +kernel
theorem dsv2_52 : decode jdk_42_method_149_code 52 = .ok (.aload 5, 2) := by decide +kernel
theorem dsv2_54 : decode jdk_42_method_149_code 54 = .ok (.putfield 9, 3) := by decide +kernel
theorem dsv2_57 : decode jdk_42_method_149_code 57 = .ok (.return_, 1) := by decide +kernel
theorem dsv2_58 : decode jdk_42_method_149_code 58 = .ok (.aload_n 0, 1) := by decide +kernel
theorem dsv2_59 : decode jdk_42_method_149_code 59 = .ok (.iconst 1, 1) := by decide +kernel
theorem dsv2_60 : decode jdk_42_method_149_code 60 = .ok (.putfield 15, 3) := by decide +kernel
theorem dsv2_63 : decode jdk_42_method_149_code 63 = .ok (.aload_n 0, 1) := by decide +kernel
theorem dsv2_64 : decode jdk_42_method_149_code 64 = .ok (.aload_n 1, 1) := by decide +kernel
theorem dsv2_65 : decode jdk_42_method_149_code 65 = .ok (.iload_n 2, 1) := by decide +kernel
theorem dsv2_66 : decode jdk_42_method_149_code 66 = .ok (.iload_n 3, 1) := by decide +kernel
theorem dsv2_67 : decode jdk_42_method_149_code 67 = .ok (.invokestatic 180, 3) := by decide +kernel
theorem dsv2_70 : decode jdk_42_method_149_code 70 = .ok (.putfield 9, 3) := by decide +kernel
theorem dsv2_73 : decode jdk_42_method_149_code 73 = .ok (.return_, 1) := by decide +kernel
theorem efsv2 (m : MethodId) (x0 : Addr) (x1 : Addr) (x2 : Int32) (x3 : Int32) : entryFrame m #[(.ref x0), (.ref x1), (.int x2), (.int x3), .null] 6 = mkF m 0 #[.val (.ref x0), .val (.ref x1), .val (.int x2), .val (.int x3), .val .null, .unset] [] := by first | (simp [entryFrame, mkF, argsToLocals, Value.category]; done) | rfl
set_option maxRecDepth 65536 in
set_option maxHeartbeats 40000000 in
theorem rm_sv2 (l : Launch) (Z : State) (a0 : Array Value) (hw : ∀ d ∈ tables_1, d.before a0 Z = true) (ws : List Jvm.Cond) (x1 : Addr) (s1 : Addr) (ks : ClassId) (ds : Value) (v0 : Value) (c0v : Value) (CS : Int32) (c0 : Int32) (c1 : Int32) (h0 : Heap) (n0 : Nat) (Z0 : n0 ≤ h0.size) (E1 : Exa Z h0 x1 "java/lang/String") (F1 : Fld Z h0 x1 "java/lang/String" "value" "[B" v0) (C1 : Fld Z h0 x1 "java/lang/String" "coder" "B" c0v) (gx : n0 ≤ x1) (V1 : Arv Z h0 s1 ks .char (2 : Int32) (([c0, c1] : List Int32).map Value.int) ds) (hbig : 255 < c0 ∨ 255 < c1) (hr : ∀ c ∈ ([c0, c1] : List Int32), ¬ c < 0 ∧ ¬ (65535 : Int32) < c) (SA : Sta Z h0 "java/lang/StringUTF16" "$assertionsDisabled" "Z" (.int 1)) (SH : Sta Z h0 "java/lang/StringUTF16" "HI_BYTE_SHIFT" "I" (.int 0)) (SL : Sta Z h0 "java/lang/StringUTF16" "LO_BYTE_SHIFT" "I" (.int 8)) (SC : Sta Z h0 "java/lang/String" "COMPACT_STRINGS" "Z" (.int CS)) (hCS : ¬ CS = 0) :
    own_Met l Z ws (⟨"java/lang/String", "<init>", "([CIILjava/lang/Void;)V"⟩ : MethodName) jdk_42_method_149_code 6 none ({ frames := 4, cells := 2, slots := 6, locals := 70 } : Room) #[(.ref x1), (.ref s1), (.int 0), (.int 2), .null] h0 (own_QS Z x1 ([c0, c1] : List Int32) h0 n0) := by
  refine own_body (plainFor_of_name pn_2) ?_
  intro p e s m below meth c s₁ hx hby hml hret hlk hown hnm hZ X0 e0
  have hml : c.maxLocals = 6 := hml
  have hown : s.vm.findClass "java/lang/String" = some m.cls := hown
  have N0 := Fr.nil n0
  refine own_cast (efsv2 m x1 s1 (0 : Int32) (2 : Int32)) ?_
  show oG p e below _ s₁ (mkF m 0 #[.val (.ref x1), .val (.ref s1), .val (.int 0), .val (.int 2), .val .null, .unset] [])
  refine oS (fun t k => XS.aloadN X0.here hx rfl (hb hby dsv2_0) rfl rfl k) ?_
  show oG p e below _ s₁ (mkF m 1 #[.val (.ref x1), .val (.ref s1), .val (.int 0), .val (.int 2), .val .null, .unset] [(.ref x1)])
  obtain ⟨T1, X1, e1, st1⟩ := initO X0 hx hZ hown (oW hw 11 rfl) (oW hw 12 rfl) (oW hw 13 rfl) e0 (g := (mkF m 1 #[.val (.ref x1), .val (.ref s1), .val (.int 0), .val (.int 2), .val .null, .unset] [(.ref x1)])) rfl (by rw [hml]; rfl) rfl (hb hby dsv2_1) (by decide) (W := 0) (by show 2 * 0 + _ ≤ _; exact Nat.le_of_eq rfl) (by decide)
  refine oS st1 ?_
  show oG p e below _ T1 (mkF m 4 #[.val (.ref x1), .val (.ref s1), .val (.int 0), .val (.int 2), .val .null, .unset] [])
  refine oS (fun t k => XS.iloadN X1.here hx rfl (hb hby dsv2_4) rfl  k) ?_
  show oG p e below _ T1 (mkF m 5 #[.val (.ref x1), .val (.ref s1), .val (.int 0), .val (.int 2), .val .null, .unset] [(.int 2)])
  refine oS (fun t k => XS.ifYes X1.here hx rfl (pc0 := 5) (pc' := 27) rfl (hb hby dsv2_5) rfl ((if0 _ _).trans (feq (by decide : ¬ (2 : Int32) = 0)).2) (by decide) (by decide) k) ?_
  show oG p e below _ T1 (mkF m 27 #[.val (.ref x1), .val (.ref s1), .val (.int 0), .val (.int 2), .val .null, .unset] [])
  obtain ⟨T27, X27, e27, st27⟩ := getS2 X1 hx hZ hown (host := "") (Or.inl (oW hw 31 rfl)) Via.refl e1 SC (g := (mkF m 27 #[.val (.ref x1), .val (.ref s1), .val (.int 0), .val (.int 2), .val .null, .unset] [])) rfl (hb hby dsv2_27)
  refine oS st27 ?_
  show oG p e below _ T27 (mkF m 30 #[.val (.ref x1), .val (.ref s1), .val (.int 0), .val (.int 2), .val .null, .unset] [(.int CS)])
  refine oS (fun t k => XS.ifNo X27.here hx rfl (hb hby dsv2_30) rfl ((if0 _ _).trans (feq hCS).1) k) ?_
  show oG p e below _ T27 (mkF m 33 #[.val (.ref x1), .val (.ref s1), .val (.int 0), .val (.int 2), .val .null, .unset] [])
  refine oS (fun t k => XS.aloadN X27.here hx rfl (hb hby dsv2_33) rfl rfl k) ?_
  refine oS (fun t k => XS.iloadN X27.here hx rfl (hb hby dsv2_34) rfl  k) ?_
  refine oS (fun t k => XS.iloadN X27.here hx rfl (hb hby dsv2_35) rfl  k) ?_
  show oG p e below _ T27 (mkF m 36 #[.val (.ref x1), .val (.ref s1), .val (.int 0), .val (.int 2), .val .null, .unset] [(.int 2), (.int 0), (.ref s1)])
  refine own_callS X27 hx hZ (y := (⟨"java/lang/StringUTF16", "compress", "([CII)[B"⟩ : MethodName)) (W := 0) (kc := 2) (ks := 6) hown (oW hw 32 rfl) (oW hw 33 rfl) (oW hw 34 rfl) (oW hw 35 rfl) (own_back (W := 0) (rm_cm2 l Z a0 hw [] s1 ks ds c0 c1 h0 n0 Z0 V1 hbig hr SA SH SL) hZ (oW hw 35 rfl) (oW hw 34 rfl) (by decide) (by decide)) (by decide) (g := (mkF m 36 #[.val (.ref x1), .val (.ref s1), .val (.int 0), .val (.int 2), .val .null, .unset] [(.int 2), (.int 0), (.ref s1)])) rfl (by rw [hml]; rfl) (argsL := [(.ref s1), (.int 0), (.int 2)]) (rest := []) (lenOf pd_10 rfl) rfl (by show 2 * 0 + _ ≤ _; exact Nat.le_of_eq rfl) (hb hby dsv2_36) rfl e27 (by decide) (by decide) (fun v36 T36 L36 X36 hQ36 => ?_)
  obtain ⟨b, kb, rfl, M36, K36, gb, zb, B36⟩ := hQ36
  have N36 := Fr.app N0 M36
  have Z36 : n0 ≤ T36.heap.size := Nat.le_trans Z0 K36.1
  have E36 := E1.keep K36
  have F36 := F1.keep K36 nin0
  have C36 := C1.keep K36 nin0
  have nb : b ≠ x1 := Nat.ne_of_gt (Nat.lt_of_lt_of_le E1.lt zb)
  show oG p e below _ T36 (mkF m 39 #[.val (.ref x1), .val (.ref s1), .val (.int 0), .val (.int 2), .val .null, .unset] [(.ref b)])
  refine oS (fun t k => XS.astore X36.here hx rfl (hb hby dsv2_39) rfl rfl (l' := #[.val (.ref x1), .val (.ref s1), .val (.int 0), .val (.int 2), .val .null, .val (.ref b)]) rfl k) ?_
  show oG p e below _ T36 (mkF m 41 #[.val (.ref x1), .val (.ref s1), .val (.int 0), .val (.int 2), .val .null, .val (.ref b)] [])
  refine oS (fun t k => XS.aloadN X36.here hx rfl (hb hby dsv2_41) rfl rfl k) ?_
  refine oS (fun t k => XS.aload X36.here hx rfl (hb hby dsv2_42) rfl rfl k) ?_
  refine oS (fun t k => XS.iloadN X36.here hx rfl (hb hby dsv2_44) rfl  k) ?_
  show oG p e below _ T36 (mkF m 45 #[.val (.ref x1), .val (.ref s1), .val (.int 0), .val (.int 2), .val .null, .val (.ref b)] [(.int 2), (.ref b), (.ref x1)])
  refine own_callS X36 hx hZ (y := (⟨"java/lang/StringUTF16", "coderFromArrayLen", "([BI)B"⟩ : MethodName)) (W := 1) (kc := 0) (ks := 0) hown (oW hw 39 rfl) (oW hw 40 rfl) (oW hw 34 rfl) (oW hw 41 rfl) (own_back (W := 1) (rm_cf2 l Z a0 hw [] b kb _ _ T36.heap n0 Z36 B36) hZ (oW hw 41 rfl) (oW hw 34 rfl) (by decide) (by decide)) (by decide) (g := (mkF m 45 #[.val (.ref x1), .val (.ref s1), .val (.int 0), .val (.int 2), .val .null, .val (.ref b)] [(.int 2), (.ref b), (.ref x1)])) rfl (by rw [hml]; rfl) (argsL := [(.ref b), (.int 2)]) (rest := [(.ref x1)]) (lenOf pd_11 rfl) rfl (by show 2 * 0 + _ ≤ _; exact Nat.le_of_eq rfl) (hb hby dsv2_45) rfl rfl (by decide) (by decide) (fun v45 T45 L45 X45 hQ45 => ?_)
  obtain ⟨rfl, M45, e45⟩ := hQ45
  have N45 := Fr.app N36 M45
  show oG p e below _ T45 (mkF m 48 #[.val (.ref x1), .val (.ref s1), .val (.int 0), .val (.int 2), .val .null, .val (.ref b)] [(.int 1), (.ref x1)])
  obtain ⟨T48, h48, X48, e48, W48, st48⟩ := putFN X45 hx hZ hown (oW hw 21 rfl) Via.refl e45 C36 E36 (Or.inr ⟨(oW hw 17 rfl), rfl, hnm⟩) (oW hw 1 rfl) (ty := .byte) (v' := (.int 1)) (by decide) rfl rfl (g := (mkF m 48 #[.val (.ref x1), .val (.ref s1), .val (.int 0), .val (.int 2), .val .null, .val (.ref b)] [(.int 1), (.ref x1)])) rfl rfl (hb hby dsv2_48)
  refine oS st48 ?_
  have N48 := Fr.snoc X48 N45 gx
  have E48_o := E36.wr W48
  have F48_value := F36.other W48 (Or.inr (slot_ne (Or.inr (oW hw 16 rfl)) (Or.inr (oW hw 17 rfl)) (by decide) (t := (.array .byte)) (t' := .byte) (by decide) (by decide)))
  have F48_coder := C36.same W48
  show oG p e below _ T48 (mkF m 51 #[.val (.ref x1), .val (.ref s1), .val (.int 0), .val (.int 2), .val .null, .val (.ref b)] [])
  have B48 := B36.other W48 nb
  refine oS (fun t k => XS.aloadN X48.here hx rfl (hb hby dsv2_51) rfl rfl k) ?_
  refine oS (fun t k => XS.aload X48.here hx rfl (hb hby dsv2_52) rfl rfl k) ?_
  show oG p e below _ T48 (mkF m 54 #[.val (.ref x1), .val (.ref s1), .val (.int 0), .val (.int 2), .val .null, .val (.ref b)] [(.ref b), (.ref x1)])
  obtain ⟨T54, h54, X54, e54, W54, st54⟩ := putF X48 hx hZ hown (host := "") (Or.inl (oW hw 20 rfl)) Via.refl e48 F48_value E48_o (Or.inr ⟨(oW hw 16 rfl), rfl, hnm⟩) (oW hw 1 rfl) (ty := (.array .byte)) (by decide) rfl rfl (g := (mkF m 54 #[.val (.ref x1), .val (.ref s1), .val (.int 0), .val (.int 2), .val .null, .val (.ref b)] [(.ref b), (.ref x1)])) rfl rfl (hb hby dsv2_54)
  refine oS st54 ?_
  have N54 := Fr.snoc X54 N48 gx
  have E54_o := E48_o.wr W54
  have F54_value := F48_value.same W54
  have F54_coder := F48_coder.other W54 (Or.inr (slot_ne (Or.inr (oW hw 17 rfl)) (Or.inr (oW hw 16 rfl)) (by decide) (t := .byte) (t' := (.array .byte)) (by decide) (by decide)))
  show oG p e below _ T54 (mkF m 57 #[.val (.ref x1), .val (.ref s1), .val (.int 0), .val (.int 2), .val .null, .val (.ref b)] [])
  have B54 := B48.other W54 nb
  refine own_retV X54 hx hlk hret (hb hby dsv2_57) ?_ (by decide) (by decide)
  rw [e54]
  exact ⟨rfl, N54, (((Keep.refl h0 [x1]).trans K36 all0).wr W48 (Or.inl (List.mem_of_getElem? (i := 0) rfl))).wr W54 (Or.inl (List.mem_of_getElem? (i := 0) rfl)), b, kb, 1, (4 : Int32), _, E54_o, F54_value, F54_coder, B54, Or.inr ⟨rfl, rfl, rfl, own_big2 hbig⟩⟩
theorem dsn2_0 : decode jdk_42_method_3_code 0 = .ok (.aload_n 0, 1) := by decide +kernel
theorem dsn2_1 : decode jdk_42_method_3_code 1 = .ok (.aload_n 1, 1) := by decide +kernel
theorem dsn2_2 : decode jdk_42_method_3_code 2 = .ok (.iconst 0, 1) := by decide +kernel
theorem dsn2_3 : decode jdk_42_method_3_code 3 = .ok (.aload_n 1, 1) := by decide +kernel
theorem dsn2_4 : decode jdk_42_method_3_code 4 = .ok (.arraylength, 1) := by decide +kernel
theorem dsn2_5 : decode jdk_42_method_3_code 5 = .ok (.aconst_null, 1) := by decide +kernel
theorem dsn2_6 : decode jdk_42_method_3_code 6 = .ok (.invokespecial 27, 3) := by decide +kernel
theorem dsn2_9 : decode jdk_42_method_3_code 9 = .ok (.return_, 1) := by decide +kernel
theorem efsn2 (m : MethodId) (x0 : Addr) (x1 : Addr) : entryFrame m #[(.ref x0), (.ref x1)] 2 = mkF m 0 #[.val (.ref x0), .val (.ref x1)] [] := by first | (simp [entryFrame, mkF, argsToLocals, Value.category]; done) | rfl
set_option maxRecDepth 65536 in
set_option maxHeartbeats 40000000 in
theorem rm_s2 (l : Launch) (Z : State) (a0 : Array Value) (hw : ∀ d ∈ tables_1, d.before a0 Z = true) (ws : List Jvm.Cond) (x1 : Addr) (s1 : Addr) (ks : ClassId) (ds : Value) (v0 : Value) (c0v : Value) (CS : Int32) (c0 : Int32) (c1 : Int32) (h0 : Heap) (n0 : Nat) (Z0 : n0 ≤ h0.size) (E1 : Exa Z h0 x1 "java/lang/String") (F1 : Fld Z h0 x1 "java/lang/String" "value" "[B" v0) (C1 : Fld Z h0 x1 "java/lang/String" "coder" "B" c0v) (gx : n0 ≤ x1) (V1 : Arv Z h0 s1 ks .char (2 : Int32) (([c0, c1] : List Int32).map Value.int) ds) (hbig : 255 < c0 ∨ 255 < c1) (hr : ∀ c ∈ ([c0, c1] : List Int32), ¬ c < 0 ∧ ¬ (65535 : Int32) < c) (SA : Sta Z h0 "java/lang/StringUTF16" "$assertionsDisabled" "Z" (.int 1)) (SH : Sta Z h0 "java/lang/StringUTF16" "HI_BYTE_SHIFT" "I" (.int 0)) (SL : Sta Z h0 "java/lang/StringUTF16" "LO_BYTE_SHIFT" "I" (.int 8)) (SC : Sta Z h0 "java/lang/String" "COMPACT_STRINGS" "Z" (.int CS)) (hCS : ¬ CS = 0) :
    own_Met l Z ws (⟨"java/lang/String", "<init>", "([C)V"⟩ : MethodName) jdk_42_method_3_code 2 none ({ frames := 5, cells := 2, slots := 6, locals := 90 } : Room) #[(.ref x1), (.ref s1)] h0 (own_QS Z x1 ([c0, c1] : List Int32) h0 n0) := by
  refine own_body (plainFor_of_name pn_2) ?_
  intro p e s m below meth c s₁ hx hby hml hret hlk hown hnm hZ X0 e0
  have hml : c.maxLocals = 2 := hml
  have hown : s.vm.findClass "java/lang/String" = some m.cls := hown
  have N0 := Fr.nil n0
  refine own_cast (efsn2 m x1 s1) ?_
  show oG p e below _ s₁ (mkF m 0 #[.val (.ref x1), .val (.ref s1)] [])
  refine oS (fun t k => XS.aloadN X0.here hx rfl (hb hby dsn2_0) rfl rfl k) ?_
  refine oS (fun t k => XS.aloadN X0.here hx rfl (hb hby dsn2_1) rfl rfl k) ?_
  refine oS (fun t k => XS.iconst X0.here hx rfl (hb hby dsn2_2) k) ?_
  refine oS (fun t k => XS.aloadN X0.here hx rfl (hb hby dsn2_3) rfl rfl k) ?_
  show oG p e below _ s₁ (mkF m 4 #[.val (.ref x1), .val (.ref s1)] [(.ref s1), (.int 0), (.ref s1), (.ref x1)])
  obtain ⟨cl4, Ar4, -, S4, M4, -, -⟩ := id V1
  refine oS (X0.arraylength hx (by rw [e0]; exact Ar4.1) (State.isArrayOf_alike hZ.alike Ar4.2.1) (g := (mkF m 4 #[.val (.ref x1), .val (.ref s1)] [(.ref s1), (.int 0), (.ref s1), (.ref x1)])) rfl rfl (hb hby dsn2_4)) ?_
  rw [len_of S4 M4]
  show oG p e below _ s₁ (mkF m 5 #[.val (.ref x1), .val (.ref s1)] [(.int 2), (.int 0), (.ref s1), (.ref x1)])
  refine oS (fun t k => XS.aconstNull X0.here hx rfl (hb hby dsn2_5) k) ?_
  show oG p e below _ s₁ (mkF m 6 #[.val (.ref x1), .val (.ref s1)] [.null, (.int 2), (.int 0), (.ref s1), (.ref x1)])
  refine own_callI X0 hx hZ (y := (⟨"java/lang/String", "<init>", "([CIILjava/lang/Void;)V"⟩ : MethodName)) (W := 0) (kc := 2) (ks := 6) rfl hown (oW hw 7 rfl) (oW hw 8 rfl) (oW hw 10 rfl) (own_back (W := 0) (rm_sv2 l Z a0 hw [] x1 s1 ks ds v0 c0v CS c0 c1 h0 n0 Z0 E1 F1 C1 gx V1 hbig hr SA SH SL SC hCS) hZ (oW hw 10 rfl) (oW hw 2 rfl) (by decide) (by decide)) (by decide) (g := (mkF m 6 #[.val (.ref x1), .val (.ref s1)] [.null, (.int 2), (.int 0), (.ref s1), (.ref x1)])) rfl (by rw [hml]; rfl) (a := x1) (argsL := [(.ref s1), (.int 0), (.int 2), .null]) (rest := []) (lenOf pd_12 rfl) rfl (by show 2 * 0 + _ ≤ _; exact Nat.le_of_eq rfl) (hb hby dsn2_6) rfl e0 (by decide) (by decide) (fun v6 T6 L6 X6 hQ6 => ?_)
  obtain ⟨rfl, M6, K6, S6⟩ := hQ6
  show oG p e below _ T6 (mkF m 9 #[.val (.ref x1), .val (.ref s1)] [])
  refine own_retV X6 hx hlk hret (hb hby dsn2_9) ?_ (by decide) (by decide)
  exact ⟨rfl, Fr.app N0 M6, K6, S6⟩
theorem dnl3_0 : decode jdk_52_method_3_code 0 = .ok (.iload_n 0, 1) := by decide +kernel
theorem dnl3_1 : decode jdk_52_method_3_code 1 = .ok (.ifCond .ge 11, 3) := by decide +kernel
theorem dnl3_4 : decode jdk_52_method_3_code 4 = .ok (.new 17, 3) := by decide +kernel
theorem dnl3_7 : decode jdk_52_method_3_code 7 = .ok (.dup, 1) := by decide +kernel
theorem dnl3_8 : decode jdk_52_method_3_code 8 = .ok (.invokespecial 19, 3) := by decide +kernel
theorem dnl3_11 : decode jdk_52_method_3_code 11 = .ok (.athrow, 1) := by decide +kernel
theorem dnl3_12 : decode jdk_52_method_3_code 12 = .ok (.iload_n 0, 1) := by decide +kernel
theorem dnl3_13 : decode jdk_52_method_3_code 13 = .ok (.ldc 20, 2) := by decide +kernel
theorem dnl3_15 : decode jdk_52_method_3_code 15 = .ok (.if_icmp .lt 40, 3) := by decide +kernel
theorem dnl3_18 : decode jdk_52_method_3_code 18 = .ok (.new 21, 3) := by decide +kernel
theorem dnl3_21 : decode jdk_52_method_3_code 21 = .ok (.dup, 1) := by decide +kernel
theorem dnl3_22 : decode jdk_52_method_3_code 22 = .ok (.new 23, 3) := by decide +kernel
theorem dnl3_25 : decode jdk_52_method_3_code 25 = .ok (.dup, 1) := by decide +kernel
theorem dnl3_26 : decode jdk_52_method_3_code 26 = .ok (.invokespecial 25, 3) := by decide +kernel
theorem dnl3_29 : decode jdk_52_method_3_code 29 = .ok (.ldc 26, 2) := by decide +kernel
theorem dnl3_31 : decode jdk_52_method_3_code 31 = .ok (.invokevirtual 28, 3) := by decide +kernel
theorem dnl3_34 : decode jdk_52_method_3_code 34 = .ok (.iload_n 0, 1) := by decide +kernel
theorem dnl3_35 : decode jdk_52_method_3_code 35 = .ok (.invokevirtual 32, 3) := by decide +kernel
theorem dnl3_38 : decode jdk_52_method_3_code 38 = .ok (.ldc 35, 2) := by decide +kernel
theorem dnl3_40 : decode jdk_52_method_3_code 40 = .ok (.invokevirtual 28, 3) := by decide +kernel
theorem dnl3_43 : decode jdk_52_method_3_code 43 = .ok (.ldc 20, 2) := by decide +kernel
theorem dnl3_45 : decode jdk_52_method_3_code 45 = .ok (.invokevirtual 32, 3) := by decide +kernel
theorem dnl3_48 : decode jdk_52_method_3_code 48 = .ok (.invokevirtual 37, 3) := by decide +kernel
theorem dnl3_51 : decode jdk_52_method_3_code 51 = .ok (.invokespecial 41, 3) := by decide +kernel
theorem dnl3_54 : decode jdk_52_method_3_code 54 = .ok (.athrow, 1) := by decide +kernel
theorem dnl3_55 : decode jdk_52_method_3_code 55 = .ok (.iload_n 0, 1) := by decide +kernel
theorem dnl3_56 : decode jdk_52_method_3_code 56 = .ok (.iconst 1, 1) := by decide +kernel
theorem dnl3_57 : decode jdk_52_method_3_code 57 = .ok (.ishl, 1) := by decide +kernel
theorem dnl3_58 : decode jdk_52_method_3_code 58 = .ok (.ireturn, 1) := by decide +kernel
theorem efnl3 (m : MethodId) (x0 : Int32) : entryFrame m #[(.int x0)] 1 = mkF m 0 #[.val (.int x0)] [] := by first | (simp [entryFrame, mkF, argsToLocals, Value.category]; done) | rfl
set_option maxRecDepth 65536 in
set_option maxHeartbeats 40000000 in
theorem rm_nl3 (l : Launch) (Z : State) (a0 : Array Value) (hw : ∀ d ∈ tables_1, d.before a0 Z = true) (ws : List Jvm.Cond) (h0 : Heap) (n0 : Nat) (Z0 : n0 ≤ h0.size) :
    own_Met l Z ws (⟨"java/lang/StringUTF16", "newBytesLength", "(I)I"⟩ : MethodName) jdk_52_method_3_code 1 (some .int) ({ frames := 0, cells := 0, slots := 0, locals := 0 } : Room) #[(.int 3)] h0 (fun v h L => v = some (.int 6) ∧ Fr n0 L ∧ h = h0) := by
  refine own_body (plainFor_of_name pn_0) ?_
  intro p e s m below meth c s₁ hx hby hml hret hlk hown hnm hZ X0 e0
  have hml : c.maxLocals = 1 := hml
  have hown : s.vm.findClass "java/lang/StringUTF16" = some m.cls := hown
  have N0 := Fr.nil n0
  refine own_cast (efnl3 m (3 : Int32)) ?_
  show oG p e below _ s₁ (mkF m 0 #[.val (.int 3)] [])
  refine oS (fun t k => XS.iloadN X0.here hx rfl (hb hby dnl3_0) rfl  k) ?_
  show oG p e below _ s₁ (mkF m 1 #[.val (.int 3)] [(.int 3)])
  refine oS (fun t k => XS.ifYes X0.here hx rfl (pc0 := 1) (pc' := 12) rfl (hb hby dnl3_1) rfl ((if0 _ _).trans (flt (by decide : ¬ (3 : Int32) < 0)).2.1) (by decide) (by decide) k) ?_
  show oG p e below _ s₁ (mkF m 12 #[.val (.int 3)] [])
  refine oS (fun t k => XS.iloadN X0.here hx rfl (hb hby dnl3_12) rfl  k) ?_
  show oG p e below _ s₁ (mkF m 13 #[.val (.int 3)] [(.int 3)])
  refine oS (X0.ldcInt hx hown (mvT hZ (oW hw 89 rfl)) (g := (mkF m 13 #[.val (.int 3)] [(.int 3)])) rfl (hb hby dnl3_13)) ?_
  show oG p e below _ s₁ (mkF m 15 #[.val (.int 3)] [(.int 1073741823), (.int 3)])
  refine oS (fun t k => XS.icmpYes X0.here hx rfl (pc0 := 15) (pc' := 55) rfl (hb hby dnl3_15) rfl (tlt (by decide : (3 : Int32) < 1073741823)).1 (by decide) (by decide) k) ?_
  show oG p e below _ s₁ (mkF m 55 #[.val (.int 3)] [])
  refine oS (fun t k => XS.iloadN X0.here hx rfl (hb hby dnl3_55) rfl  k) ?_
  refine oS (fun t k => XS.iconst X0.here hx rfl (hb hby dnl3_56) k) ?_
  refine oS (fun t k => XS.ishl X0.here hx rfl (hb hby dnl3_57) rfl k) ?_
  show oG p e below _ s₁ (mkF m 58 #[.val (.int 3)] [(.int ((3 : Int32) <<< ((1 : Int32) &&& 31)))])
  rw [(by decide : ((3 : Int32) <<< ((1 : Int32) &&& 31)) = (6 : Int32))]
  show oG p e below _ s₁ (mkF m 58 #[.val (.int 3)] [(.int 6)])
  refine own_retI X0 hx hlk hret (hb hby dnl3_58) ?_ (by decide) (by decide)
  rw [e0]
  exact ⟨rfl, N0, rfl⟩
theorem dnf3_0 : decode jdk_52_method_2_code 0 = .ok (.iload_n 0, 1) := by decide +kernel
theorem dnf3_1 : decode jdk_52_method_2_code 1 = .ok (.invokestatic 11, 3) := by decide +kernel
theorem dnf3_4 : decode jdk_52_method_2_code 4 = .ok (.newarray .byte, 2) := by decide +kernel
theorem dnf3_6 : decode jdk_52_method_2_code 6 = .ok (.areturn, 1) := by decide +kernel
theorem efnf3 (m : MethodId) (x0 : Int32) : entryFrame m #[(.int x0)] 1 = mkF m 0 #[.val (.int x0)] [] := by first | (simp [entryFrame, mkF, argsToLocals, Value.category]; done) | rfl
set_option maxRecDepth 65536 in
set_option maxHeartbeats 40000000 in
theorem rm_nf3 (l : Launch) (Z : State) (a0 : Array Value) (hw : ∀ d ∈ tables_1, d.before a0 Z = true) (ws : List Jvm.Cond) (h0 : Heap) (n0 : Nat) (Z0 : n0 ≤ h0.size) :
    own_Met l Z ws (⟨"java/lang/StringUTF16", "newBytesFor", "(I)[B"⟩ : MethodName) jdk_52_method_2_code 1 (some (.array .byte)) ({ frames := 1, cells := 1, slots := 6, locals := 12 } : Room) #[(.int 3)] h0 (fun v h L => ∃ kb, v = some (.ref h0.size) ∧ Fr n0 L ∧ Ext h0 h ∧ Arv Z h h0.size kb .byte (6 : Int32) [(.int 0), (.int 0), (.int 0), (.int 0), (.int 0), (.int 0)] (.int 0)) := by
  refine own_body (plainFor_of_name pn_0) ?_
  intro p e s m below meth c s₁ hx hby hml hret hlk hown hnm hZ X0 e0
  have hml : c.maxLocals = 1 := hml
  have hown : s.vm.findClass "java/lang/StringUTF16" = some m.cls := hown
  have N0 := Fr.nil n0
  refine own_cast (efnf3 m (3 : Int32)) ?_
  show oG p e below _ s₁ (mkF m 0 #[.val (.int 3)] [])
  refine oS (fun t k => XS.iloadN X0.here hx rfl (hb hby dnf3_0) rfl  k) ?_
  show oG p e below _ s₁ (mkF m 1 #[.val (.int 3)] [(.int 3)])
  refine own_callS X0 hx hZ (y := (⟨"java/lang/StringUTF16", "newBytesLength", "(I)I"⟩ : MethodName)) (W := 0) (kc := 0) (ks := 0) hown (oW hw 86 rfl) (oW hw 87 rfl) (oW hw 34 rfl) (oW hw 88 rfl) (own_back (W := 0) (rm_nl3 l Z a0 hw [] h0 n0 Z0) hZ (oW hw 88 rfl) (oW hw 34 rfl) (by decide) (by decide)) (by decide) (g := (mkF m 1 #[.val (.int 3)] [(.int 3)])) rfl (by rw [hml]; rfl) (argsL := [(.int 3)]) (rest := []) (lenOf pd_6 rfl) rfl (by show 2 * 0 + _ ≤ _; exact Nat.le_of_eq rfl) (hb hby dnf3_1) rfl e0 (by decide) (by decide) (fun v1 T1 L1 X1 hQ1 => ?_)
  obtain ⟨rfl, M1, e1⟩ := hQ1
  show oG p e below _ T1 (mkF m 4 #[.val (.int 3)] [(.int 6)])
  obtain ⟨T4, h4, k4, X4, e4, E4, A4, st4⟩ := newP X1 hx hZ (oW hw 15 rfl) e1 (g := (mkF m 4 #[.val (.int 3)] [(.int 6)])) rfl (hb hby dnf3_4) rfl (by decide) (cap := 6) (by decide) (by decide) (by decide) (by decide)
  obtain ⟨b4, g4⟩ : ∃ z, z = h0.size := ⟨_, rfl⟩
  rw [← g4] at A4 st4
  have V4 : Arv Z h4 b4 k4 .byte (6 : Int32) [(.int 0), (.int 0), (.int 0), (.int 0), (.int 0), (.int 0)] (.int 0) := (Arv.new A4 (by decide)).pad (pad_rep [] (.int 0) 6)
  refine oS st4 ?_
  show oG p e below _ T4 (mkF m 6 #[.val (.int 3)] [(.ref b4)])
  subst g4
  show oG p e below _ T4 (mkF m 6 #[.val (.int 3)] [(.ref h0.size)])
  refine own_retA X4 hx hlk hret rfl rfl (hb hby dnf3_6) ?_ (by decide) (by decide)
  rw [e4]
  exact ⟨k4, rfl, Fr.app N0 M1, E4, V4⟩
theorem dtb3_0 : decode jdk_52_method_14_code 0 = .ok (.iload_n 2, 1) := by decide +kernel
theorem dtb3_1 : decode jdk_52_method_14_code 1 = .ok (.invokestatic 107, 3) := by decide +kernel
theorem dtb3_4 : decode jdk_52_method_14_code 4 = .ok (.astore_n 3, 1) := by decide +kernel
theorem dtb3_5 : decode jdk_52_method_14_code 5 = .ok (.iconst 0, 1) := by decide +kernel
theorem dtb3_6 : decode jdk_52_method_14_code 6 = .ok (.istore 4, 2) := by decide +kernel
theorem dtb3_8 : decode jdk_52_method_14_code 8 = .ok (.iload 4, 2) := by decide +kernel
theorem dtb3_10 : decode jdk_52_method_14_code 10 = .ok (.iload_n 2, 1) := by decide +kernel
theorem dtb3_11 : decode jdk_52_method_14_code 11 = .ok (.if_icmp .ge 21, 3) := by decide +kernel
theorem dtb3_14 : decode jdk_52_method_14_code 14 = .ok (.aload_n 3, 1) := by decide +kernel
theorem dtb3_15 : decode jdk_52_method_14_code 15 = .ok (.iload 4, 2) := by decide +kernel
theorem dtb3_17 : decode jdk_52_method_14_code 17 = .ok (.aload_n 0, 1) := by decide +kernel
theorem dtb3_18 : decode jdk_52_method_14_code 18 = .ok (.iload_n 1, 1) := by decide +kernel
theorem dtb3_19 : decode jdk_52_method_14_code 19 = .ok (.caload, 1) := by decide +kernel
theorem dtb3_20 : decode jdk_52_method_14_code 20 = .ok (.invokestatic 111, 3) := by decide +kernel
theorem dtb3_23 : decode jdk_52_method_14_code 23 = .ok (.iinc 1 1, 3) := by decide +kernel
theorem dtb3_26 : decode jdk_52_method_14_code 26 = .ok (.iinc 4 1, 3) := by decide +kernel
theorem dtb3_29 : decode jdk_52_method_14_code 29 = .ok (.goto (-21), 3) := by decide +kernel
theorem dtb3_32 : decode jdk_52_method_14_code 32 = .ok (.aload_n 3, 1) := by decide +kernel
theorem dtb3_33 : decode jdk_52_method_14_code 33 = .ok (.areturn, 1) := by decide +kernel
theorem eftb3 (m : MethodId) (x0 : Addr) (x1 : Int32) (x2 : Int32) : entryFrame m #[(.ref x0), (.int x1), (.int x2)] 5 = mkF m 0 #[.val (.ref x0), .val (.int x1), .val (.int x2), .unset, .unset] [] := by first | (simp [entryFrame, mkF, argsToLocals, Value.category]; done) | rfl
set_option maxRecDepth 65536 in
set_option maxHeartbeats 40000000 in
theorem rm_tb3 (l : Launch) (Z : State) (a0 : Array Value) (hw : ∀ d ∈ tables_1, d.before a0 Z = true) (ws : List Jvm.Cond) (s1 : Addr) (ks : ClassId) (ds : Value) (c0 : Int32) (c1 : Int32) (c2 : Int32) (h0 : Heap) (n0 : Nat) (Z0 : n0 ≤ h0.size) (V1 : Arv Z h0 s1 ks .char (3 : Int32) (([c0, c1, c2] : List Int32).map Value.int) ds) (SA : Sta Z h0 "java/lang/StringUTF16" "$assertionsDisabled" "Z" (.int 1)) (SH : Sta Z h0 "java/lang/StringUTF16" "HI_BYTE_SHIFT" "I" (.int 0)) (SL : Sta Z h0 "java/lang/StringUTF16" "LO_BYTE_SHIFT" "I" (.int 8)) :
    own_Met l Z ws (⟨"java/lang/StringUTF16", "toBytes", "([CII)[B"⟩ : MethodName) jdk_52_method_14_code 5 (some (.array .byte)) ({ frames := 2, cells := 1, slots := 6, locals := 30 } : Room) #[(.ref s1), (.int 0), (.int 3)] h0 (fun v h L => ∃ kb, v = some (.ref h0.size) ∧ Fr n0 L ∧ Keep h0 h [] ∧ Arv Z h h0.size kb .byte (6 : Int32) (StrChars.Road.wideBytes ([c0, c1, c2] : List Int32)) (.int 0)) := by
  refine own_body (plainFor_of_name pn_0) ?_
  intro p e s m below meth c s₁ hx hby hml hret hlk hown hnm hZ X0 e0
  have hml : c.maxLocals = 5 := hml
  have hown : s.vm.findClass "java/lang/StringUTF16" = some m.cls := hown
  have N0 := Fr.nil n0
  refine own_cast (eftb3 m s1 (0 : Int32) (3 : Int32)) ?_
  show oG p e below _ s₁ (mkF m 0 #[.val (.ref s1), .val (.int 0), .val (.int 3), .unset, .unset] [])
  refine oS (fun t k => XS.iloadN X0.here hx rfl (hb hby dtb3_0) rfl  k) ?_
  show oG p e below _ s₁ (mkF m 1 #[.val (.ref s1), .val (.int 0), .val (.int 3), .unset, .unset] [(.int 3)])
  refine own_callS X0 hx hZ (y := (⟨"java/lang/StringUTF16", "newBytesFor", "(I)[B"⟩ : MethodName)) (W := 0) (kc := 1) (ks := 6) hown (oW hw 83 rfl) (oW hw 84 rfl) (oW hw 34 rfl) (oW hw 85 rfl) (own_back (W := 0) (rm_nf3 l Z a0 hw [] h0 n0 Z0) hZ (oW hw 85 rfl) (oW hw 34 rfl) (by decide) (by decide)) (by decide) (g := (mkF m 1 #[.val (.ref s1), .val (.int 0), .val (.int 3), .unset, .unset] [(.int 3)])) rfl (by rw [hml]; rfl) (argsL := [(.int 3)]) (rest := []) (lenOf pd_7 rfl) rfl (by show 2 * 0 + _ ≤ _; exact Nat.le_of_eq rfl) (hb hby dtb3_1) rfl e0 (by decide) (by decide) (fun v1 T1 L1 X1 hQ1 => ?_)
  obtain ⟨kb, rfl, M1, E1, B1⟩ := hQ1
  have N1 := Fr.app N0 M1
  have KK1 : Keep h0 T1.heap [] := (Keep.refl h0 []).ext E1
  have Z1 : n0 ≤ T1.heap.size := Nat.le_trans Z0 E1.1
  have W1 := V1.ext E1
  have ne1 : s1 ≠ h0.size := Nat.ne_of_lt V1.lt
  have SA1 := SA.ext E1
  have SH1 := SH.ext E1
  have SL1 := SL.ext E1
  show oG p e below _ T1 (mkF m 4 #[.val (.ref s1), .val (.int 0), .val (.int 3), .unset, .unset] [(.ref h0.size)])
  refine oS (fun t k => XS.astoreN X1.here hx rfl (hb hby dtb3_4) rfl rfl (l' := #[.val (.ref s1), .val (.int 0), .val (.int 3), .val (.ref h0.size), .unset]) rfl k) ?_
  show oG p e below _ T1 (mkF m 5 #[.val (.ref s1), .val (.int 0), .val (.int 3), .val (.ref h0.size), .unset] [])
  refine oS (fun t k => XS.iconst X1.here hx rfl (hb hby dtb3_5) k) ?_
  refine oS (fun t k => XS.istore X1.here hx rfl (hb hby dtb3_6) rfl (l' := #[.val (.ref s1), .val (.int 0), .val (.int 3), .val (.ref h0.size), .val (.int 0)]) rfl k) ?_
  show oG p e below _ T1 (mkF m 8 #[.val (.ref s1), .val (.int 0), .val (.int 3), .val (.ref h0.size), .val (.int 0)] [])
  refine oS (fun t k => XS.iload X1.here hx rfl (hb hby dtb3_8) rfl  k) ?_
  refine oS (fun t k => XS.iloadN X1.here hx rfl (hb hby dtb3_10) rfl  k) ?_
  show oG p e below _ T1 (mkF m 11 #[.val (.ref s1), .val (.int 0), .val (.int 3), .val (.ref h0.size), .val (.int 0)] [(.int 3), (.int 0)])
  refine oS (fun t k => XS.icmpNo X1.here hx rfl (hb hby dtb3_11) rfl (tlt (by decide : (0 : Int32) < (3 : Int32))).2.1 k) ?_
  show oG p e below _ T1 (mkF m 14 #[.val (.ref s1), .val (.int 0), .val (.int 3), .val (.ref h0.size), .val (.int 0)] [])
  refine oS (fun t k => XS.aloadN X1.here hx rfl (hb hby dtb3_14) rfl rfl k) ?_
  refine oS (fun t k => XS.iload X1.here hx rfl (hb hby dtb3_15) rfl  k) ?_
  refine oS (fun t k => XS.aloadN X1.here hx rfl (hb hby dtb3_17) rfl rfl k) ?_
  refine oS (fun t k => XS.iloadN X1.here hx rfl (hb hby dtb3_18) rfl  k) ?_
  show oG p e below _ T1 (mkF m 19 #[.val (.ref s1), .val (.int 0), .val (.int 3), .val (.ref h0.size), .val (.int 0)] [(.int 0), (.ref s1), (.int 0), (.ref h0.size)])
  obtain ⟨cli0, Ari0, -, Si0, Mi0, Hi0, Gi0⟩ := id W1
  have hini0 : ¬ ((0 : Int32) < 0 ∨ cli0.slots.size ≤ ((0 : Int32)).toNatClampNeg) := inb_of Si0 ⟨by decide, by decide⟩
  refine oS (X1.caload hx (j := (0 : Int32)) (v := (.int c0)) Ari0.1 (State.isArrayOf_alike hZ.alike Ari0.2.1) Ari0.2.2 hini0 (Has.at Hi0 hini0 rfl) (g := (mkF m 19 #[.val (.ref s1), .val (.int 0), .val (.int 3), .val (.ref h0.size), .val (.int 0)] [(.int 0), (.ref s1), (.int 0), (.ref h0.size)])) rfl rfl (hb hby dtb3_19)) ?_
  show oG p e below _ T1 (mkF m 20 #[.val (.ref s1), .val (.int 0), .val (.int 3), .val (.ref h0.size), .val (.int 0)] [(.int c0), (.int 0), (.ref h0.size)])
  refine own_callS X1 hx hZ (y := (⟨"java/lang/StringUTF16", "putChar", "([BII)V"⟩ : MethodName)) (W := 0) (kc := 0) (ks := 0) hown (oW hw 90 rfl) (oW hw 91 rfl) (oW hw 34 rfl) (oW hw 92 rfl) (own_back (W := 0) (rm_pu0 l Z a0 hw [] h0.size c0 kb (6 : Int32) _ T1.heap n0 Z1 B1 Z0 (by decide) (by decide) (Nat.le_of_ble_eq_true rfl) SA1 SH1 SL1) hZ (oW hw 92 rfl) (oW hw 34 rfl) (by decide) (by decide)) (by decide) (g := (mkF m 20 #[.val (.ref s1), .val (.int 0), .val (.int 3), .val (.ref h0.size), .val (.int 0)] [(.int c0), (.int 0), (.ref h0.size)])) rfl (by rw [hml]; rfl) (argsL := [(.ref h0.size), (.int 0), (.int c0)]) (rest := []) (lenOf pd_8 rfl) rfl (by show 2 * 0 + _ ≤ _; exact Nat.le_of_eq rfl) (hb hby dtb3_20) rfl rfl (by decide) (by decide) (fun vq0 Tq0 Lq0 Xq0 hQq0 => ?_)
  obtain ⟨rfl, Mq0, Kq0, Bq0⟩ := hQq0
  have Nq0 := Fr.app N1 Mq0
  have KKq0 : Keep h0 Tq0.heap [] := KK1.trans Kq0 (allS (Or.inr (Nat.le_refl _)) all0)
  have Zq0 : n0 ≤ Tq0.heap.size := Nat.le_trans Z1 Kq0.1
  have Wq0 := W1.keep Kq0 (ninS ne1 nin0)
  have SAq0 := own_staK SA1 Kq0 (own_arvOld B1)
  have SHq0 := own_staK SH1 Kq0 (own_arvOld B1)
  have SLq0 := own_staK SL1 Kq0 (own_arvOld B1)
  show oG p e below _ Tq0 (mkF m 23 #[.val (.ref s1), .val (.int 0), .val (.int 3), .val (.ref h0.size), .val (.int 0)] [])
  refine oS (fun t k => XS.iinc Xq0.here hx rfl (hb hby dtb3_23) rfl (l' := #[.val (.ref s1), .val (.int ((0 : Int32) + (1 : Int32))), .val (.int 3), .val (.ref h0.size), .val (.int 0)]) rfl k) ?_
  show oG p e below _ Tq0 (mkF m 26 #[.val (.ref s1), .val (.int ((0 : Int32) + (1 : Int32))), .val (.int 3), .val (.ref h0.size), .val (.int 0)] [])
  show oG p e below _ Tq0 (mkF m 26 #[.val (.ref s1), .val (.int 1), .val (.int 3), .val (.ref h0.size), .val (.int 0)] [])
  refine oS (fun t k => XS.iinc Xq0.here hx rfl (hb hby dtb3_26) rfl (l' := #[.val (.ref s1), .val (.int 1), .val (.int 3), .val (.ref h0.size), .val (.int ((0 : Int32) + (1 : Int32)))]) rfl k) ?_
  show oG p e below _ Tq0 (mkF m 29 #[.val (.ref s1), .val (.int 1), .val (.int 3), .val (.ref h0.size), .val (.int ((0 : Int32) + (1 : Int32)))] [])
  show oG p e below _ Tq0 (mkF m 29 #[.val (.ref s1), .val (.int 1), .val (.int 3), .val (.ref h0.size), .val (.int 1)] [])
  refine oS (fun t k => XS.goto Xq0.here hx rfl (pc0 := 29) (pc' := 8) rfl (hb hby dtb3_29) (by decide) (by decide) k) ?_
  show oG p e below _ Tq0 (mkF m 8 #[.val (.ref s1), .val (.int 1), .val (.int 3), .val (.ref h0.size), .val (.int 1)] [])
  refine oS (fun t k => XS.iload Xq0.here hx rfl (hb hby dtb3_8) rfl  k) ?_
  refine oS (fun t k => XS.iloadN Xq0.here hx rfl (hb hby dtb3_10) rfl  k) ?_
  show oG p e below _ Tq0 (mkF m 11 #[.val (.ref s1), .val (.int 1), .val (.int 3), .val (.ref h0.size), .val (.int 1)] [(.int 3), (.int 1)])
  refine oS (fun t k => XS.icmpNo Xq0.here hx rfl (hb hby dtb3_11) rfl (tlt (by decide : (1 : Int32) < (3 : Int32))).2.1 k) ?_
  show oG p e below _ Tq0 (mkF m 14 #[.val (.ref s1), .val (.int 1), .val (.int 3), .val (.ref h0.size), .val (.int 1)] [])
  refine oS (fun t k => XS.aloadN Xq0.here hx rfl (hb hby dtb3_14) rfl rfl k) ?_
  refine oS (fun t k => XS.iload Xq0.here hx rfl (hb hby dtb3_15) rfl  k) ?_
  refine oS (fun t k => XS.aloadN Xq0.here hx rfl (hb hby dtb3_17) rfl rfl k) ?_
  refine oS (fun t k => XS.iloadN Xq0.here hx rfl (hb hby dtb3_18) rfl  k) ?_
  show oG p e below _ Tq0 (mkF m 19 #[.val (.ref s1), .val (.int 1), .val (.int 3), .val (.ref h0.size), .val (.int 1)] [(.int 1), (.ref s1), (.int 1), (.ref h0.size)])
  obtain ⟨cli1, Ari1, -, Si1, Mi1, Hi1, Gi1⟩ := id Wq0
  have hini1 : ¬ ((1 : Int32) < 0 ∨ cli1.slots.size ≤ ((1 : Int32)).toNatClampNeg) := inb_of Si1 ⟨by decide, by decide⟩
  refine oS (Xq0.caload hx (j := (1 : Int32)) (v := (.int c1)) Ari1.1 (State.isArrayOf_alike hZ.alike Ari1.2.1) Ari1.2.2 hini1 (Has.at Hi1 hini1 rfl) (g := (mkF m 19 #[.val (.ref s1), .val (.int 1), .val (.int 3), .val (.ref h0.size), .val (.int 1)] [(.int 1), (.ref s1), (.int 1), (.ref h0.size)])) rfl rfl (hb hby dtb3_19)) ?_
  show oG p e below _ Tq0 (mkF m 20 #[.val (.ref s1), .val (.int 1), .val (.int 3), .val (.ref h0.size), .val (.int 1)] [(.int c1), (.int 1), (.ref h0.size)])
  refine own_callS Xq0 hx hZ (y := (⟨"java/lang/StringUTF16", "putChar", "([BII)V"⟩ : MethodName)) (W := 0) (kc := 0) (ks := 0) hown (oW hw 90 rfl) (oW hw 91 rfl) (oW hw 34 rfl) (oW hw 92 rfl) (own_back (W := 0) (rm_pu1 l Z a0 hw [] h0.size c1 kb (6 : Int32) _ Tq0.heap n0 Zq0 Bq0 Z0 (by decide) (by decide) (Nat.le_of_ble_eq_true rfl) SAq0 SHq0 SLq0) hZ (oW hw 92 rfl) (oW hw 34 rfl) (by decide) (by decide)) (by decide) (g := (mkF m 20 #[.val (.ref s1), .val (.int 1), .val (.int 3), .val (.ref h0.size), .val (.int 1)] [(.int c1), (.int 1), (.ref h0.size)])) rfl (by rw [hml]; rfl) (argsL := [(.ref h0.size), (.int 1), (.int c1)]) (rest := []) (lenOf pd_8 rfl) rfl (by show 2 * 0 + _ ≤ _; exact Nat.le_of_eq rfl) (hb hby dtb3_20) rfl rfl (by decide) (by decide) (fun vq1 Tq1 Lq1 Xq1 hQq1 => ?_)
  obtain ⟨rfl, Mq1, Kq1, Bq1⟩ := hQq1
  have Nq1 := Fr.app Nq0 Mq1
  have KKq1 : Keep h0 Tq1.heap [] := KKq0.trans Kq1 (allS (Or.inr (Nat.le_refl _)) all0)
  have Zq1 : n0 ≤ Tq1.heap.size := Nat.le_trans Zq0 Kq1.1
  have Wq1 := Wq0.keep Kq1 (ninS ne1 nin0)
  have SAq1 := own_staK SAq0 Kq1 (own_arvOld Bq0)
  have SHq1 := own_staK SHq0 Kq1 (own_arvOld Bq0)
  have SLq1 := own_staK SLq0 Kq1 (own_arvOld Bq0)
  show oG p e below _ Tq1 (mkF m 23 #[.val (.ref s1), .val (.int 1), .val (.int 3), .val (.ref h0.size), .val (.int 1)] [])
  refine oS (fun t k => XS.iinc Xq1.here hx rfl (hb hby dtb3_23) rfl (l' := #[.val (.ref s1), .val (.int ((1 : Int32) + (1 : Int32))), .val (.int 3), .val (.ref h0.size), .val (.int 1)]) rfl k) ?_
  show oG p e below _ Tq1 (mkF m 26 #[.val (.ref s1), .val (.int ((1 : Int32) + (1 : Int32))), .val (.int 3), .val (.ref h0.size), .val (.int 1)] [])
  show oG p e below _ Tq1 (mkF m 26 #[.val (.ref s1), .val (.int 2), .val (.int 3), .val (.ref h0.size), .val (.int 1)] [])
  refine oS (fun t k => XS.iinc Xq1.here hx rfl (hb hby dtb3_26) rfl (l' := #[.val (.ref s1), .val (.int 2), .val (.int 3), .val (.ref h0.size), .val (.int ((1 : Int32) + (1 : Int32)))]) rfl k) ?_
  show oG p e below _ Tq1 (mkF m 29 #[.val (.ref s1), .val (.int 2), .val (.int 3), .val (.ref h0.size), .val (.int ((1 : Int32) + (1 : Int32)))] [])
  show oG p e below _ Tq1 (mkF m 29 #[.val (.ref s1), .val (.int 2), .val (.int 3), .val (.ref h0.size), .val (.int 2)] [])
  refine oS (fun t k => XS.goto Xq1.here hx rfl (pc0 := 29) (pc' := 8) rfl (hb hby dtb3_29) (by decide) (by decide) k) ?_
  show oG p e below _ Tq1 (mkF m 8 #[.val (.ref s1), .val (.int 2), .val (.int 3), .val (.ref h0.size), .val (.int 2)] [])
  refine oS (fun t k => XS.iload Xq1.here hx rfl (hb hby dtb3_8) rfl  k) ?_
  refine oS (fun t k => XS.iloadN Xq1.here hx rfl (hb hby dtb3_10) rfl  k) ?_
  show oG p e below _ Tq1 (mkF m 11 #[.val (.ref s1), .val (.int 2), .val (.int 3), .val (.ref h0.size), .val (.int 2)] [(.int 3), (.int 2)])
  refine oS (fun t k => XS.icmpNo Xq1.here hx rfl (hb hby dtb3_11) rfl (tlt (by decide : (2 : Int32) < (3 : Int32))).2.1 k) ?_
  show oG p e below _ Tq1 (mkF m 14 #[.val (.ref s1), .val (.int 2), .val (.int 3), .val (.ref h0.size), .val (.int 2)] [])
  refine oS (fun t k => XS.aloadN Xq1.here hx rfl (hb hby dtb3_14) rfl rfl k) ?_
  refine oS (fun t k => XS.iload Xq1.here hx rfl (hb hby dtb3_15) rfl  k) ?_
  refine oS (fun t k => XS.aloadN Xq1.here hx rfl (hb hby dtb3_17) rfl rfl k) ?_
  refine oS (fun t k => XS.iloadN Xq1.here hx rfl (hb hby dtb3_18) rfl  k) ?_
  show oG p e below _ Tq1 (mkF m 19 #[.val (.ref s1), .val (.int 2), .val (.int 3), .val (.ref h0.size), .val (.int 2)] [(.int 2), (.ref s1), (.int 2), (.ref h0.size)])
  obtain ⟨cli2, Ari2, -, Si2, Mi2, Hi2, Gi2⟩ := id Wq1
  have hini2 : ¬ ((2 : Int32) < 0 ∨ cli2.slots.size ≤ ((2 : Int32)).toNatClampNeg) := inb_of Si2 ⟨by decide, by decide⟩
  refine oS (Xq1.caload hx (j := (2 : Int32)) (v := (.int c2)) Ari2.1 (State.isArrayOf_alike hZ.alike Ari2.2.1) Ari2.2.2 hini2 (Has.at Hi2 hini2 rfl) (g := (mkF m 19 #[.val (.ref s1), .val (.int 2), .val (.int 3), .val (.ref h0.size), .val (.int 2)] [(.int 2), (.ref s1), (.int 2), (.ref h0.size)])) rfl rfl (hb hby dtb3_19)) ?_
  show oG p e below _ Tq1 (mkF m 20 #[.val (.ref s1), .val (.int 2), .val (.int 3), .val (.ref h0.size), .val (.int 2)] [(.int c2), (.int 2), (.ref h0.size)])
  refine own_callS Xq1 hx hZ (y := (⟨"java/lang/StringUTF16", "putChar", "([BII)V"⟩ : MethodName)) (W := 0) (kc := 0) (ks := 0) hown (oW hw 90 rfl) (oW hw 91 rfl) (oW hw 34 rfl) (oW hw 92 rfl) (own_back (W := 0) (rm_pu2 l Z a0 hw [] h0.size c2 kb (6 : Int32) _ Tq1.heap n0 Zq1 Bq1 Z0 (by decide) (by decide) (Nat.le_of_ble_eq_true rfl) SAq1 SHq1 SLq1) hZ (oW hw 92 rfl) (oW hw 34 rfl) (by decide) (by decide)) (by decide) (g := (mkF m 20 #[.val (.ref s1), .val (.int 2), .val (.int 3), .val (.ref h0.size), .val (.int 2)] [(.int c2), (.int 2), (.ref h0.size)])) rfl (by rw [hml]; rfl) (argsL := [(.ref h0.size), (.int 2), (.int c2)]) (rest := []) (lenOf pd_8 rfl) rfl (by show 2 * 0 + _ ≤ _; exact Nat.le_of_eq rfl) (hb hby dtb3_20) rfl rfl (by decide) (by decide) (fun vq2 Tq2 Lq2 Xq2 hQq2 => ?_)
  obtain ⟨rfl, Mq2, Kq2, Bq2⟩ := hQq2
  have Nq2 := Fr.app Nq1 Mq2
  have KKq2 : Keep h0 Tq2.heap [] := KKq1.trans Kq2 (allS (Or.inr (Nat.le_refl _)) all0)
  have Zq2 : n0 ≤ Tq2.heap.size := Nat.le_trans Zq1 Kq2.1
  have Wq2 := Wq1.keep Kq2 (ninS ne1 nin0)
  have SAq2 := own_staK SAq1 Kq2 (own_arvOld Bq1)
  have SHq2 := own_staK SHq1 Kq2 (own_arvOld Bq1)
  have SLq2 := own_staK SLq1 Kq2 (own_arvOld Bq1)
  show oG p e below _ Tq2 (mkF m 23 #[.val (.ref s1), .val (.int 2), .val (.int 3), .val (.ref h0.size), .val (.int 2)] [])
  refine oS (fun t k => XS.iinc Xq2.here hx rfl (hb hby dtb3_23) rfl (l' := #[.val (.ref s1), .val (.int ((2 : Int32) + (1 : Int32))), .val (.int 3), .val (.ref h0.size), .val (.int 2)]) rfl k) ?_
  show oG p e below _ Tq2 (mkF m 26 #[.val (.ref s1), .val (.int ((2 : Int32) + (1 : Int32))), .val (.int 3), .val (.ref h0.size), .val (.int 2)] [])
  show oG p e below _ Tq2 (mkF m 26 #[.val (.ref s1), .val (.int 3), .val (.int 3), .val (.ref h0.size), .val (.int 2)] [])
  refine oS (fun t k => XS.iinc Xq2.here hx rfl (hb hby dtb3_26) rfl (l' := #[.val (.ref s1), .val (.int 3), .val (.int 3), .val (.ref h0.size), .val (.int ((2 : Int32) + (1 : Int32)))]) rfl k) ?_
  show oG p e below _ Tq2 (mkF m 29 #[.val (.ref s1), .val (.int 3), .val (.int 3), .val (.ref h0.size), .val (.int ((2 : Int32) + (1 : Int32)))] [])
  show oG p e below _ Tq2 (mkF m 29 #[.val (.ref s1), .val (.int 3), .val (.int 3), .val (.ref h0.size), .val (.int 3)] [])
  refine oS (fun t k => XS.goto Xq2.here hx rfl (pc0 := 29) (pc' := 8) rfl (hb hby dtb3_29) (by decide) (by decide) k) ?_
  show oG p e below _ Tq2 (mkF m 8 #[.val (.ref s1), .val (.int 3), .val (.int 3), .val (.ref h0.size), .val (.int 3)] [])
  refine oS (fun t k => XS.iload Xq2.here hx rfl (hb hby dtb3_8) rfl  k) ?_
  refine oS (fun t k => XS.iloadN Xq2.here hx rfl (hb hby dtb3_10) rfl  k) ?_
  show oG p e below _ Tq2 (mkF m 11 #[.val (.ref s1), .val (.int 3), .val (.int 3), .val (.ref h0.size), .val (.int 3)] [(.int 3), (.int 3)])
  refine oS (fun t k => XS.icmpYes Xq2.here hx rfl (pc0 := 11) (pc' := 32) rfl (hb hby dtb3_11) rfl (flt (by decide : ¬ (3 : Int32) < (3 : Int32))).2.1 (by decide) (by decide) k) ?_
  show oG p e below _ Tq2 (mkF m 32 #[.val (.ref s1), .val (.int 3), .val (.int 3), .val (.ref h0.size), .val (.int 3)] [])
  refine oS (fun t k => XS.aloadN Xq2.here hx rfl (hb hby dtb3_32) rfl rfl k) ?_
  show oG p e below _ Tq2 (mkF m 33 #[.val (.ref s1), .val (.int 3), .val (.int 3), .val (.ref h0.size), .val (.int 3)] [(.ref h0.size)])
  refine own_retA Xq2 hx hlk hret rfl rfl (hb hby dtb3_33) ?_ (by decide) (by decide)
  exact ⟨kb, rfl, Nq2, KKq2, Bq2⟩
theorem dci3_0 : decode jdk_52_method_21_code 0 = .ok (.iconst 0, 1) := by decide +kernel
theorem dci3_1 : decode jdk_52_method_21_code 1 = .ok (.istore 5, 2) := by decide +kernel
theorem dci3_3 : decode jdk_52_method_21_code 3 = .ok (.iload 5, 2) := by decide +kernel
theorem dci3_5 : decode jdk_52_method_21_code 5 = .ok (.iload 4, 2) := by decide +kernel
theorem dci3_7 : decode jdk_52_method_21_code 7 = .ok (.if_icmp .ge 37, 3) := by decide +kernel
theorem dci3_10 : decode jdk_52_method_21_code 10 = .ok (.aload_n 0, 1) := by decide +kernel
theorem dci3_11 : decode jdk_52_method_21_code 11 = .ok (.iload_n 1, 1) := by decide +kernel
theorem dci3_12 : decode jdk_52_method_21_code 12 = .ok (.caload, 1) := by decide +kernel
theorem dci3_13 : decode jdk_52_method_21_code 13 = .ok (.istore 6, 2) := by decide +kernel
theorem dci3_15 : decode jdk_52_method_21_code 15 = .ok (.iload 6, 2) := by decide +kernel
theorem dci3_17 : decode jdk_52_method_21_code 17 = .ok (.sipush 255, 3) := by decide +kernel
theorem dci3_20 : decode jdk_52_method_21_code 20 = .ok (.if_icmp .le 6, 3) := by decide +kernel
theorem dci3_23 : decode jdk_52_method_21_code 23 = .ok (.iload 5, 2) := by decide +kernel
theorem dci3_25 : decode jdk_52_method_21_code 25 = .ok (.ireturn, 1) := by decide +kernel
theorem dci3_26 : decode jdk_52_method_21_code 26 = .ok (.aload_n 2, 1) := by decide +kernel
theorem dci3_27 : decode jdk_52_method_21_code 27 = .ok (.iload_n 3, 1) := by decide +kernel
theorem dci3_28 : decode jdk_52_method_21_code 28 = .ok (.iload 6, 2) := by decide +kernel
theorem dci3_30 : decode jdk_52_method_21_code 30 = .ok (.i2b, 1) := by decide +kernel
theorem dci3_31 : decode jdk_52_method_21_code 31 = .ok (.bastore, 1) := by decide +kernel
theorem dci3_32 : decode jdk_52_method_21_code 32 = .ok (.iinc 1 1, 3) := by decide +kernel
theorem dci3_35 : decode jdk_52_method_21_code 35 = .ok (.iinc 3 1, 3) := by decide +kernel
theorem dci3_38 : decode jdk_52_method_21_code 38 = .ok (.iinc 5 1, 3) := by decide +kernel
theorem dci3_41 : decode jdk_52_method_21_code 41 = .ok (.goto (-38), 3) := by decide +kernel
theorem dci3_44 : decode jdk_52_method_21_code 44 = .ok (.iload 4, 2) := by decide +kernel
theorem dci3_46 : decode jdk_52_method_21_code 46 = .ok (.ireturn, 1) := by decide +kernel
theorem efci3 (m : MethodId) (x0 : Addr) (x1 : Int32) (x2 : Addr) (x3 : Int32) (x4 : Int32) : entryFrame m #[(.ref x0), (.int x1), (.ref x2), (.int x3), (.int x4)] 7 = mkF m 0 #[.val (.ref x0), .val (.int x1), .val (.ref x2), .val (.int x3), .val (.int x4), .unset, .unset] [] := by first | (simp [entryFrame, mkF, argsToLocals, Value.category]; done) | rfl
set_option maxRecDepth 65536 in
set_option maxHeartbeats 40000000 in
theorem rm_ci3 (l : Launch) (Z : State) (a0 : Array Value) (hw : ∀ d ∈ tables_1, d.before a0 Z = true) (ws : List Jvm.Cond) (s1 : Addr) (d1 : Addr) (ks : ClassId) (kd : ClassId) (ds : Value) (c0 : Int32) (c1 : Int32) (c2 : Int32) (h0 : Heap) (n0 : Nat) (Z0 : n0 ≤ h0.size) (V1 : Arv Z h0 s1 ks .char (3 : Int32) (([c0, c1, c2] : List Int32).map Value.int) ds) (D1 : Arv Z h0 d1 kd .byte (3 : Int32) [(.int 0), (.int 0), (.int 0)] (.int 0)) (hne : s1 ≠ d1) (gd : n0 ≤ d1) (hbig : 255 < c0 ∨ 255 < c1 ∨ 255 < c2) :
    own_Met l Z ws (⟨"java/lang/StringUTF16", "compress", "([CI[BII)I"⟩ : MethodName) jdk_52_method_21_code 7 (some .int) ({ frames := 0, cells := 0, slots := 0, locals := 0 } : Room) #[(.ref s1), (.int 0), (.ref d1), (.int 0), (.int 3)] h0 (fun v h L => ∃ k : Int32, v = some (.int k) ∧ Fr n0 L ∧ Keep h0 h [d1] ∧ ((k = 0 ∧ 255 < c0) ∨ (k = 1 ∧ 255 < c1) ∨ (k = 2 ∧ 255 < c2))) := by
  refine own_body (plainFor_of_name pn_0) ?_
  intro p e s m below meth c s₁ hx hby hml hret hlk hown hnm hZ X0 e0
  have hml : c.maxLocals = 7 := hml
  have hown : s.vm.findClass "java/lang/StringUTF16" = some m.cls := hown
  have N0 := Fr.nil n0
  refine own_cast (efci3 m s1 (0 : Int32) d1 (0 : Int32) (3 : Int32)) ?_
  show oG p e below _ s₁ (mkF m 0 #[.val (.ref s1), .val (.int 0), .val (.ref d1), .val (.int 0), .val (.int 3), .unset, .unset] [])
  refine oS (fun t k => XS.iconst X0.here hx rfl (hb hby dci3_0) k) ?_
  refine oS (fun t k => XS.istore X0.here hx rfl (hb hby dci3_1) rfl (l' := #[.val (.ref s1), .val (.int 0), .val (.ref d1), .val (.int 0), .val (.int 3), .val (.int 0), .unset]) rfl k) ?_
  show oG p e below _ s₁ (mkF m 3 #[.val (.ref s1), .val (.int 0), .val (.ref d1), .val (.int 0), .val (.int 3), .val (.int 0), .unset] [])
  refine oS (fun t k => XS.iload X0.here hx rfl (hb hby dci3_3) rfl  k) ?_
  refine oS (fun t k => XS.iload X0.here hx rfl (hb hby dci3_5) rfl  k) ?_
  show oG p e below _ s₁ (mkF m 7 #[.val (.ref s1), .val (.int 0), .val (.ref d1), .val (.int 0), .val (.int 3), .val (.int 0), .unset] [(.int 3), (.int 0)])
  refine oS (fun t k => XS.icmpNo X0.here hx rfl (hb hby dci3_7) rfl (tlt (by decide : (0 : Int32) < (3 : Int32))).2.1 k) ?_
  show oG p e below _ s₁ (mkF m 10 #[.val (.ref s1), .val (.int 0), .val (.ref d1), .val (.int 0), .val (.int 3), .val (.int 0), .unset] [])
  refine oS (fun t k => XS.aloadN X0.here hx rfl (hb hby dci3_10) rfl rfl k) ?_
  refine oS (fun t k => XS.iloadN X0.here hx rfl (hb hby dci3_11) rfl  k) ?_
  show oG p e below _ s₁ (mkF m 12 #[.val (.ref s1), .val (.int 0), .val (.ref d1), .val (.int 0), .val (.int 3), .val (.int 0), .unset] [(.int 0), (.ref s1)])
  obtain ⟨cli0, Ari0, -, Si0, Mi0, Hi0, Gi0⟩ := id V1
  have hini0 : ¬ ((0 : Int32) < 0 ∨ cli0.slots.size ≤ ((0 : Int32)).toNatClampNeg) := inb_of Si0 ⟨by decide, by decide⟩
  refine oS (X0.caload hx (j := (0 : Int32)) (v := (.int c0)) (by rw [e0]; exact Ari0.1) (State.isArrayOf_alike hZ.alike Ari0.2.1) Ari0.2.2 hini0 (Has.at Hi0 hini0 rfl) (g := (mkF m 12 #[.val (.ref s1), .val (.int 0), .val (.ref d1), .val (.int 0), .val (.int 3), .val (.int 0), .unset] [(.int 0), (.ref s1)])) rfl rfl (hb hby dci3_12)) ?_
  show oG p e below _ s₁ (mkF m 13 #[.val (.ref s1), .val (.int 0), .val (.ref d1), .val (.int 0), .val (.int 3), .val (.int 0), .unset] [(.int c0)])
  refine oS (fun t k => XS.istore X0.here hx rfl (hb hby dci3_13) rfl (l' := #[.val (.ref s1), .val (.int 0), .val (.ref d1), .val (.int 0), .val (.int 3), .val (.int 0), .val (.int c0)]) rfl k) ?_
  show oG p e below _ s₁ (mkF m 15 #[.val (.ref s1), .val (.int 0), .val (.ref d1), .val (.int 0), .val (.int 3), .val (.int 0), .val (.int c0)] [])
  refine oS (fun t k => XS.iload X0.here hx rfl (hb hby dci3_15) rfl  k) ?_
  refine oS (fun t k => XS.sipush X0.here hx rfl (hb hby dci3_17) k) ?_
  show oG p e below _ s₁ (mkF m 20 #[.val (.ref s1), .val (.int 0), .val (.ref d1), .val (.int 0), .val (.int 3), .val (.int 0), .val (.int c0)] [(.int 255), (.int c0)])
  by_cases u0 : (255 : Int32) < c0
  · refine oS (fun t k => XS.icmpNo X0.here hx rfl (hb hby dci3_20) rfl (tlt u0).2.2.2 k) ?_
    show oG p e below _ s₁ (mkF m 23 #[.val (.ref s1), .val (.int 0), .val (.ref d1), .val (.int 0), .val (.int 3), .val (.int 0), .val (.int c0)] [])
    refine oS (fun t k => XS.iload X0.here hx rfl (hb hby dci3_23) rfl  k) ?_
    show oG p e below _ s₁ (mkF m 25 #[.val (.ref s1), .val (.int 0), .val (.ref d1), .val (.int 0), .val (.int 3), .val (.int 0), .val (.int c0)] [(.int 0)])
    refine own_retI X0 hx hlk hret (hb hby dci3_25) ?_ (by decide) (by decide)
    rw [e0]
    exact ⟨_, rfl, N0, (Keep.refl h0 [d1]), Or.inl ⟨rfl, u0⟩⟩
  · refine oS (fun t k => XS.icmpYes X0.here hx rfl (pc0 := 20) (pc' := 26) rfl (hb hby dci3_20) rfl (flt u0).2.2.2 (by decide) (by decide) k) ?_
    show oG p e below _ s₁ (mkF m 26 #[.val (.ref s1), .val (.int 0), .val (.ref d1), .val (.int 0), .val (.int 3), .val (.int 0), .val (.int c0)] [])
    refine oS (fun t k => XS.aloadN X0.here hx rfl (hb hby dci3_26) rfl rfl k) ?_
    refine oS (fun t k => XS.iloadN X0.here hx rfl (hb hby dci3_27) rfl  k) ?_
    refine oS (fun t k => XS.iload X0.here hx rfl (hb hby dci3_28) rfl  k) ?_
    refine oS (fun t k => XS.i2b X0.here hx rfl (hb hby dci3_30) rfl k) ?_
    show oG p e below _ s₁ (mkF m 31 #[.val (.ref s1), .val (.int 0), .val (.ref d1), .val (.int 0), .val (.int 3), .val (.int 0), .val (.int c0)] [(.int (c0.toInt8.toInt32)), (.int 0), (.ref d1)])
    obtain ⟨cls0, Ars0, qs0, Ss0, Ms0, Hs0, Gs0⟩ := D1
    have hins0 : ¬ ((0 : Int32) < 0 ∨ cls0.slots.size ≤ ((0 : Int32)).toNatClampNeg) := inb_of Ss0 ⟨by decide, by decide⟩
    obtain ⟨Ts0, hs0, Xs0, es0, Ws0, sts0⟩ := stB X0 hx hZ e0 Ars0 (j := (0 : Int32)) hins0 (g := (mkF m 31 #[.val (.ref s1), .val (.int 0), .val (.ref d1), .val (.int 0), .val (.int 3), .val (.int 0), .val (.int c0)] [(.int (c0.toInt8.toInt32)), (.int 0), (.ref d1)])) rfl rfl (hb hby dci3_31)
    refine oS sts0 ?_
    have Vs0 := Arv.set Ars0 qs0 Ss0 Ms0 Hs0 Gs0 (fits_nar_byte _) Ws0 0 rfl (Nat.le_of_ble_eq_true rfl)
    have Ns0 := Fr.snoc Xs0 N0 gd
    show oG p e below _ Ts0 (mkF m 32 #[.val (.ref s1), .val (.int 0), .val (.ref d1), .val (.int 0), .val (.int 3), .val (.int 0), .val (.int c0)] [])
    have KS0 := (Keep.refl h0 [d1]).wr Ws0 (Or.inl (List.mem_of_getElem? (i := 0) rfl))
    have VS0 := V1.other Ws0 hne
    refine oS (fun t k => XS.iinc Xs0.here hx rfl (hb hby dci3_32) rfl (l' := #[.val (.ref s1), .val (.int ((0 : Int32) + (1 : Int32))), .val (.ref d1), .val (.int 0), .val (.int 3), .val (.int 0), .val (.int c0)]) rfl k) ?_
    show oG p e below _ Ts0 (mkF m 35 #[.val (.ref s1), .val (.int ((0 : Int32) + (1 : Int32))), .val (.ref d1), .val (.int 0), .val (.int 3), .val (.int 0), .val (.int c0)] [])
    show oG p e below _ Ts0 (mkF m 35 #[.val (.ref s1), .val (.int 1), .val (.ref d1), .val (.int 0), .val (.int 3), .val (.int 0), .val (.int c0)] [])
    refine oS (fun t k => XS.iinc Xs0.here hx rfl (hb hby dci3_35) rfl (l' := #[.val (.ref s1), .val (.int 1), .val (.ref d1), .val (.int ((0 : Int32) + (1 : Int32))), .val (.int 3), .val (.int 0), .val (.int c0)]) rfl k) ?_
    show oG p e below _ Ts0 (mkF m 38 #[.val (.ref s1), .val (.int 1), .val (.ref d1), .val (.int ((0 : Int32) + (1 : Int32))), .val (.int 3), .val (.int 0), .val (.int c0)] [])
    show oG p e below _ Ts0 (mkF m 38 #[.val (.ref s1), .val (.int 1), .val (.ref d1), .val (.int 1), .val (.int 3), .val (.int 0), .val (.int c0)] [])
    refine oS (fun t k => XS.iinc Xs0.here hx rfl (hb hby dci3_38) rfl (l' := #[.val (.ref s1), .val (.int 1), .val (.ref d1), .val (.int 1), .val (.int 3), .val (.int ((0 : Int32) + (1 : Int32))), .val (.int c0)]) rfl k) ?_
    show oG p e below _ Ts0 (mkF m 41 #[.val (.ref s1), .val (.int 1), .val (.ref d1), .val (.int 1), .val (.int 3), .val (.int ((0 : Int32) + (1 : Int32))), .val (.int c0)] [])
    show oG p e below _ Ts0 (mkF m 41 #[.val (.ref s1), .val (.int 1), .val (.ref d1), .val (.int 1), .val (.int 3), .val (.int 1), .val (.int c0)] [])
    refine oS (fun t k => XS.goto Xs0.here hx rfl (pc0 := 41) (pc' := 3) rfl (hb hby dci3_41) (by decide) (by decide) k) ?_
    show oG p e below _ Ts0 (mkF m 3 #[.val (.ref s1), .val (.int 1), .val (.ref d1), .val (.int 1), .val (.int 3), .val (.int 1), .val (.int c0)] [])
    refine oS (fun t k => XS.iload Xs0.here hx rfl (hb hby dci3_3) rfl  k) ?_
    refine oS (fun t k => XS.iload Xs0.here hx rfl (hb hby dci3_5) rfl  k) ?_
    show oG p e below _ Ts0 (mkF m 7 #[.val (.ref s1), .val (.int 1), .val (.ref d1), .val (.int 1), .val (.int 3), .val (.int 1), .val (.int c0)] [(.int 3), (.int 1)])
    refine oS (fun t k => XS.icmpNo Xs0.here hx rfl (hb hby dci3_7) rfl (tlt (by decide : (1 : Int32) < (3 : Int32))).2.1 k) ?_
    show oG p e below _ Ts0 (mkF m 10 #[.val (.ref s1), .val (.int 1), .val (.ref d1), .val (.int 1), .val (.int 3), .val (.int 1), .val (.int c0)] [])
    refine oS (fun t k => XS.aloadN Xs0.here hx rfl (hb hby dci3_10) rfl rfl k) ?_
    refine oS (fun t k => XS.iloadN Xs0.here hx rfl (hb hby dci3_11) rfl  k) ?_
    show oG p e below _ Ts0 (mkF m 12 #[.val (.ref s1), .val (.int 1), .val (.ref d1), .val (.int 1), .val (.int 3), .val (.int 1), .val (.int c0)] [(.int 1), (.ref s1)])
    obtain ⟨cli1, Ari1, -, Si1, Mi1, Hi1, Gi1⟩ := id VS0
    have hini1 : ¬ ((1 : Int32) < 0 ∨ cli1.slots.size ≤ ((1 : Int32)).toNatClampNeg) := inb_of Si1 ⟨by decide, by decide⟩
    refine oS (Xs0.caload hx (j := (1 : Int32)) (v := (.int c1)) (by rw [es0]; exact Ari1.1) (State.isArrayOf_alike hZ.alike Ari1.2.1) Ari1.2.2 hini1 (Has.at Hi1 hini1 rfl) (g := (mkF m 12 #[.val (.ref s1), .val (.int 1), .val (.ref d1), .val (.int 1), .val (.int 3), .val (.int 1), .val (.int c0)] [(.int 1), (.ref s1)])) rfl rfl (hb hby dci3_12)) ?_
    show oG p e below _ Ts0 (mkF m 13 #[.val (.ref s1), .val (.int 1), .val (.ref d1), .val (.int 1), .val (.int 3), .val (.int 1), .val (.int c0)] [(.int c1)])
    refine oS (fun t k => XS.istore Xs0.here hx rfl (hb hby dci3_13) rfl (l' := #[.val (.ref s1), .val (.int 1), .val (.ref d1), .val (.int 1), .val (.int 3), .val (.int 1), .val (.int c1)]) rfl k) ?_
    show oG p e below _ Ts0 (mkF m 15 #[.val (.ref s1), .val (.int 1), .val (.ref d1), .val (.int 1), .val (.int 3), .val (.int 1), .val (.int c1)] [])
    refine oS (fun t k => XS.iload Xs0.here hx rfl (hb hby dci3_15) rfl  k) ?_
    refine oS (fun t k => XS.sipush Xs0.here hx rfl (hb hby dci3_17) k) ?_
    show oG p e below _ Ts0 (mkF m 20 #[.val (.ref s1), .val (.int 1), .val (.ref d1), .val (.int 1), .val (.int 3), .val (.int 1), .val (.int c1)] [(.int 255), (.int c1)])
    by_cases u1 : (255 : Int32) < c1
    · refine oS (fun t k => XS.icmpNo Xs0.here hx rfl (hb hby dci3_20) rfl (tlt u1).2.2.2 k) ?_
      show oG p e below _ Ts0 (mkF m 23 #[.val (.ref s1), .val (.int 1), .val (.ref d1), .val (.int 1), .val (.int 3), .val (.int 1), .val (.int c1)] [])
      refine oS (fun t k => XS.iload Xs0.here hx rfl (hb hby dci3_23) rfl  k) ?_
      show oG p e below _ Ts0 (mkF m 25 #[.val (.ref s1), .val (.int 1), .val (.ref d1), .val (.int 1), .val (.int 3), .val (.int 1), .val (.int c1)] [(.int 1)])
      refine own_retI Xs0 hx hlk hret (hb hby dci3_25) ?_ (by decide) (by decide)
      rw [es0]
      exact ⟨_, rfl, Ns0, KS0, Or.inr (Or.inl ⟨rfl, u1⟩)⟩
    · refine oS (fun t k => XS.icmpYes Xs0.here hx rfl (pc0 := 20) (pc' := 26) rfl (hb hby dci3_20) rfl (flt u1).2.2.2 (by decide) (by decide) k) ?_
      show oG p e below _ Ts0 (mkF m 26 #[.val (.ref s1), .val (.int 1), .val (.ref d1), .val (.int 1), .val (.int 3), .val (.int 1), .val (.int c1)] [])
      refine oS (fun t k => XS.aloadN Xs0.here hx rfl (hb hby dci3_26) rfl rfl k) ?_
      refine oS (fun t k => XS.iloadN Xs0.here hx rfl (hb hby dci3_27) rfl  k) ?_
      refine oS (fun t k => XS.iload Xs0.here hx rfl (hb hby dci3_28) rfl  k) ?_
      refine oS (fun t k => XS.i2b Xs0.here hx rfl (hb hby dci3_30) rfl k) ?_
      show oG p e below _ Ts0 (mkF m 31 #[.val (.ref s1), .val (.int 1), .val (.ref d1), .val (.int 1), .val (.int 3), .val (.int 1), .val (.int c1)] [(.int (c1.toInt8.toInt32)), (.int 1), (.ref d1)])
      obtain ⟨cls1, Ars1, qs1, Ss1, Ms1, Hs1, Gs1⟩ := Vs0
      have hins1 : ¬ ((1 : Int32) < 0 ∨ cls1.slots.size ≤ ((1 : Int32)).toNatClampNeg) := inb_of Ss1 ⟨by decide, by decide⟩
      obtain ⟨Ts1, hs1, Xs1, es1, Ws1, sts1⟩ := stB Xs0 hx hZ es0 Ars1 (j := (1 : Int32)) hins1 (g := (mkF m 31 #[.val (.ref s1), .val (.int 1), .val (.ref d1), .val (.int 1), .val (.int 3), .val (.int 1), .val (.int c1)] [(.int (c1.toInt8.toInt32)), (.int 1), (.ref d1)])) rfl rfl (hb hby dci3_31)
      refine oS sts1 ?_
      have Vs1 := Arv.set Ars1 qs1 Ss1 Ms1 Hs1 Gs1 (fits_nar_byte _) Ws1 1 rfl (Nat.le_of_ble_eq_true rfl)
      have Ns1 := Fr.snoc Xs1 Ns0 gd
      show oG p e below _ Ts1 (mkF m 32 #[.val (.ref s1), .val (.int 1), .val (.ref d1), .val (.int 1), .val (.int 3), .val (.int 1), .val (.int c1)] [])
      have KS1 := KS0.wr Ws1 (Or.inl (List.mem_of_getElem? (i := 0) rfl))
      have VS1 := VS0.other Ws1 hne
      refine oS (fun t k => XS.iinc Xs1.here hx rfl (hb hby dci3_32) rfl (l' := #[.val (.ref s1), .val (.int ((1 : Int32) + (1 : Int32))), .val (.ref d1), .val (.int 1), .val (.int 3), .val (.int 1), .val (.int c1)]) rfl k) ?_
      show oG p e below _ Ts1 (mkF m 35 #[.val (.ref s1), .val (.int ((1 : Int32) + (1 : Int32))), .val (.ref d1), .val (.int 1), .val (.int 3), .val (.int 1), .val (.int c1)] [])
      show oG p e below _ Ts1 (mkF m 35 #[.val (.ref s1), .val (.int 2), .val (.ref d1), .val (.int 1), .val (.int 3), .val (.int 1), .val (.int c1)] [])
      refine oS (fun t k => XS.iinc Xs1.here hx rfl (hb hby dci3_35) rfl (l' := #[.val (.ref s1), .val (.int 2), .val (.ref d1), .val (.int ((1 : Int32) + (1 : Int32))), .val (.int 3), .val (.int 1), .val (.int c1)]) rfl k) ?_
      show oG p e below _ Ts1 (mkF m 38 #[.val (.ref s1), .val (.int 2), .val (.ref d1), .val (.int ((1 : Int32) + (1 : Int32))), .val (.int 3), .val (.int 1), .val (.int c1)] [])
      show oG p e below _ Ts1 (mkF m 38 #[.val (.ref s1), .val (.int 2), .val (.ref d1), .val (.int 2), .val (.int 3), .val (.int 1), .val (.int c1)] [])
      refine oS (fun t k => XS.iinc Xs1.here hx rfl (hb hby dci3_38) rfl (l' := #[.val (.ref s1), .val (.int 2), .val (.ref d1), .val (.int 2), .val (.int 3), .val (.int ((1 : Int32) + (1 : Int32))), .val (.int c1)]) rfl k) ?_
      show oG p e below _ Ts1 (mkF m 41 #[.val (.ref s1), .val (.int 2), .val (.ref d1), .val (.int 2), .val (.int 3), .val (.int ((1 : Int32) + (1 : Int32))), .val (.int c1)] [])
      show oG p e below _ Ts1 (mkF m 41 #[.val (.ref s1), .val (.int 2), .val (.ref d1), .val (.int 2), .val (.int 3), .val (.int 2), .val (.int c1)] [])
      refine oS (fun t k => XS.goto Xs1.here hx rfl (pc0 := 41) (pc' := 3) rfl (hb hby dci3_41) (by decide) (by decide) k) ?_
      show oG p e below _ Ts1 (mkF m 3 #[.val (.ref s1), .val (.int 2), .val (.ref d1), .val (.int 2), .val (.int 3), .val (.int 2), .val (.int c1)] [])
      refine oS (fun t k => XS.iload Xs1.here hx rfl (hb hby dci3_3) rfl  k) ?_
      refine oS (fun t k => XS.iload Xs1.here hx rfl (hb hby dci3_5) rfl  k) ?_
      show oG p e below _ Ts1 (mkF m 7 #[.val (.ref s1), .val (.int 2), .val (.ref d1), .val (.int 2), .val (.int 3), .val (.int 2), .val (.int c1)] [(.int 3), (.int 2)])
      refine oS (fun t k => XS.icmpNo Xs1.here hx rfl (hb hby dci3_7) rfl (tlt (by decide : (2 : Int32) < (3 : Int32))).2.1 k) ?_
      show oG p e below _ Ts1 (mkF m 10 #[.val (.ref s1), .val (.int 2), .val (.ref d1), .val (.int 2), .val (.int 3), .val (.int 2), .val (.int c1)] [])
      refine oS (fun t k => XS.aloadN Xs1.here hx rfl (hb hby dci3_10) rfl rfl k) ?_
      refine oS (fun t k => XS.iloadN Xs1.here hx rfl (hb hby dci3_11) rfl  k) ?_
      show oG p e below _ Ts1 (mkF m 12 #[.val (.ref s1), .val (.int 2), .val (.ref d1), .val (.int 2), .val (.int 3), .val (.int 2), .val (.int c1)] [(.int 2), (.ref s1)])
      obtain ⟨cli2, Ari2, -, Si2, Mi2, Hi2, Gi2⟩ := id VS1
      have hini2 : ¬ ((2 : Int32) < 0 ∨ cli2.slots.size ≤ ((2 : Int32)).toNatClampNeg) := inb_of Si2 ⟨by decide, by decide⟩
      refine oS (Xs1.caload hx (j := (2 : Int32)) (v := (.int c2)) (by rw [es1]; exact Ari2.1) (State.isArrayOf_alike hZ.alike Ari2.2.1) Ari2.2.2 hini2 (Has.at Hi2 hini2 rfl) (g := (mkF m 12 #[.val (.ref s1), .val (.int 2), .val (.ref d1), .val (.int 2), .val (.int 3), .val (.int 2), .val (.int c1)] [(.int 2), (.ref s1)])) rfl rfl (hb hby dci3_12)) ?_
      show oG p e below _ Ts1 (mkF m 13 #[.val (.ref s1), .val (.int 2), .val (.ref d1), .val (.int 2), .val (.int 3), .val (.int 2), .val (.int c1)] [(.int c2)])
      refine oS (fun t k => XS.istore Xs1.here hx rfl (hb hby dci3_13) rfl (l' := #[.val (.ref s1), .val (.int 2), .val (.ref d1), .val (.int 2), .val (.int 3), .val (.int 2), .val (.int c2)]) rfl k) ?_
      show oG p e below _ Ts1 (mkF m 15 #[.val (.ref s1), .val (.int 2), .val (.ref d1), .val (.int 2), .val (.int 3), .val (.int 2), .val (.int c2)] [])
      refine oS (fun t k => XS.iload Xs1.here hx rfl (hb hby dci3_15) rfl  k) ?_
      refine oS (fun t k => XS.sipush Xs1.here hx rfl (hb hby dci3_17) k) ?_
      show oG p e below _ Ts1 (mkF m 20 #[.val (.ref s1), .val (.int 2), .val (.ref d1), .val (.int 2), .val (.int 3), .val (.int 2), .val (.int c2)] [(.int 255), (.int c2)])
      by_cases u2 : (255 : Int32) < c2
      · refine oS (fun t k => XS.icmpNo Xs1.here hx rfl (hb hby dci3_20) rfl (tlt u2).2.2.2 k) ?_
        show oG p e below _ Ts1 (mkF m 23 #[.val (.ref s1), .val (.int 2), .val (.ref d1), .val (.int 2), .val (.int 3), .val (.int 2), .val (.int c2)] [])
        refine oS (fun t k => XS.iload Xs1.here hx rfl (hb hby dci3_23) rfl  k) ?_
        show oG p e below _ Ts1 (mkF m 25 #[.val (.ref s1), .val (.int 2), .val (.ref d1), .val (.int 2), .val (.int 3), .val (.int 2), .val (.int c2)] [(.int 2)])
        refine own_retI Xs1 hx hlk hret (hb hby dci3_25) ?_ (by decide) (by decide)
        rw [es1]
        exact ⟨_, rfl, Ns1, KS1, Or.inr (Or.inr (⟨rfl, u2⟩))⟩
      · refine oS (fun t k => XS.icmpYes Xs1.here hx rfl (pc0 := 20) (pc' := 26) rfl (hb hby dci3_20) rfl (flt u2).2.2.2 (by decide) (by decide) k) ?_
        show oG p e below _ Ts1 (mkF m 26 #[.val (.ref s1), .val (.int 2), .val (.ref d1), .val (.int 2), .val (.int 3), .val (.int 2), .val (.int c2)] [])
        refine oS (fun t k => XS.aloadN Xs1.here hx rfl (hb hby dci3_26) rfl rfl k) ?_
        refine oS (fun t k => XS.iloadN Xs1.here hx rfl (hb hby dci3_27) rfl  k) ?_
        refine oS (fun t k => XS.iload Xs1.here hx rfl (hb hby dci3_28) rfl  k) ?_
        refine oS (fun t k => XS.i2b Xs1.here hx rfl (hb hby dci3_30) rfl k) ?_
        show oG p e below _ Ts1 (mkF m 31 #[.val (.ref s1), .val (.int 2), .val (.ref d1), .val (.int 2), .val (.int 3), .val (.int 2), .val (.int c2)] [(.int (c2.toInt8.toInt32)), (.int 2), (.ref d1)])
        obtain ⟨cls2, Ars2, qs2, Ss2, Ms2, Hs2, Gs2⟩ := Vs1
        have hins2 : ¬ ((2 : Int32) < 0 ∨ cls2.slots.size ≤ ((2 : Int32)).toNatClampNeg) := inb_of Ss2 ⟨by decide, by decide⟩
        obtain ⟨Ts2, hs2, Xs2, es2, Ws2, sts2⟩ := stB Xs1 hx hZ es1 Ars2 (j := (2 : Int32)) hins2 (g := (mkF m 31 #[.val (.ref s1), .val (.int 2), .val (.ref d1), .val (.int 2), .val (.int 3), .val (.int 2), .val (.int c2)] [(.int (c2.toInt8.toInt32)), (.int 2), (.ref d1)])) rfl rfl (hb hby dci3_31)
        refine oS sts2 ?_
        have Vs2 := Arv.set Ars2 qs2 Ss2 Ms2 Hs2 Gs2 (fits_nar_byte _) Ws2 2 rfl (Nat.le_of_ble_eq_true rfl)
        have Ns2 := Fr.snoc Xs2 Ns1 gd
        show oG p e below _ Ts2 (mkF m 32 #[.val (.ref s1), .val (.int 2), .val (.ref d1), .val (.int 2), .val (.int 3), .val (.int 2), .val (.int c2)] [])
        have KS2 := KS1.wr Ws2 (Or.inl (List.mem_of_getElem? (i := 0) rfl))
        have VS2 := VS1.other Ws2 hne
        refine oS (fun t k => XS.iinc Xs2.here hx rfl (hb hby dci3_32) rfl (l' := #[.val (.ref s1), .val (.int ((2 : Int32) + (1 : Int32))), .val (.ref d1), .val (.int 2), .val (.int 3), .val (.int 2), .val (.int c2)]) rfl k) ?_
        show oG p e below _ Ts2 (mkF m 35 #[.val (.ref s1), .val (.int ((2 : Int32) + (1 : Int32))), .val (.ref d1), .val (.int 2), .val (.int 3), .val (.int 2), .val (.int c2)] [])
        show oG p e below _ Ts2 (mkF m 35 #[.val (.ref s1), .val (.int 3), .val (.ref d1), .val (.int 2), .val (.int 3), .val (.int 2), .val (.int c2)] [])
        refine oS (fun t k => XS.iinc Xs2.here hx rfl (hb hby dci3_35) rfl (l' := #[.val (.ref s1), .val (.int 3), .val (.ref d1), .val (.int ((2 : Int32) + (1 : Int32))), .val (.int 3), .val (.int 2), .val (.int c2)]) rfl k) ?_
        show oG p e below _ Ts2 (mkF m 38 #[.val (.ref s1), .val (.int 3), .val (.ref d1), .val (.int ((2 : Int32) + (1 : Int32))), .val (.int 3), .val (.int 2), .val (.int c2)] [])
        show oG p e below _ Ts2 (mkF m 38 #[.val (.ref s1), .val (.int 3), .val (.ref d1), .val (.int 3), .val (.int 3), .val (.int 2), .val (.int c2)] [])
        refine oS (fun t k => XS.iinc Xs2.here hx rfl (hb hby dci3_38) rfl (l' := #[.val (.ref s1), .val (.int 3), .val (.ref d1), .val (.int 3), .val (.int 3), .val (.int ((2 : Int32) + (1 : Int32))), .val (.int c2)]) rfl k) ?_
        show oG p e below _ Ts2 (mkF m 41 #[.val (.ref s1), .val (.int 3), .val (.ref d1), .val (.int 3), .val (.int 3), .val (.int ((2 : Int32) + (1 : Int32))), .val (.int c2)] [])
        show oG p e below _ Ts2 (mkF m 41 #[.val (.ref s1), .val (.int 3), .val (.ref d1), .val (.int 3), .val (.int 3), .val (.int 3), .val (.int c2)] [])
        refine oS (fun t k => XS.goto Xs2.here hx rfl (pc0 := 41) (pc' := 3) rfl (hb hby dci3_41) (by decide) (by decide) k) ?_
        show oG p e below _ Ts2 (mkF m 3 #[.val (.ref s1), .val (.int 3), .val (.ref d1), .val (.int 3), .val (.int 3), .val (.int 3), .val (.int c2)] [])
        refine oS (fun t k => XS.iload Xs2.here hx rfl (hb hby dci3_3) rfl  k) ?_
        refine oS (fun t k => XS.iload Xs2.here hx rfl (hb hby dci3_5) rfl  k) ?_
        show oG p e below _ Ts2 (mkF m 7 #[.val (.ref s1), .val (.int 3), .val (.ref d1), .val (.int 3), .val (.int 3), .val (.int 3), .val (.int c2)] [(.int 3), (.int 3)])
        exact absurd hbig (by simp [u0, u1, u2])
theorem dcm3_0 : decode jdk_52_method_16_code 0 = .ok (.iload_n 2, 1) := by decide +kernel
theorem dcm3_1 : decode jdk_52_method_16_code 1 = .ok (.newarray .byte, 2) := by decide +kernel
theorem dcm3_3 : decode jdk_52_method_16_code 3 = .ok (.astore_n 3, 1) := by decide +kernel
theorem dcm3_4 : decode jdk_52_method_16_code 4 = .ok (.aload_n 0, 1) := by decide +kernel
theorem dcm3_5 : decode jdk_52_method_16_code 5 = .ok (.iload_n 1, 1) := by decide +kernel
theorem dcm3_6 : decode jdk_52_method_16_code 6 = .ok (.aload_n 3, 1) := by decide +kernel
theorem dcm3_7 : decode jdk_52_method_16_code 7 = .ok (.iconst 0, 1) := by decide +kernel
theorem dcm3_8 : decode jdk_52_method_16_code 8 = .ok (.iload_n 2, 1) := by decide +kernel
theorem dcm3_9 : decode jdk_52_method_16_code 9 = .ok (.invokestatic 115, 3) := by decide +kernel
theorem dcm3_12 : decode jdk_52_method_16_code 12 = .ok (.istore 4, 2) := by decide +kernel
theorem dcm3_14 : decode jdk_52_method_16_code 14 = .ok (.iload 4, 2) := by decide +kernel
theorem dcm3_16 : decode jdk_52_method_16_code 16 = .ok (.iload_n 2, 1) := by decide +kernel
theorem dcm3_17 : decode jdk_52_method_16_code 17 = .ok (.if_icmp .eq 40, 3) := by decide +kernel
theorem dcm3_20 : decode jdk_52_method_16_code 20 = .ok (.aload_n 0, 1) := by decide +kernel
theorem dcm3_21 : decode jdk_52_method_16_code 21 = .ok (.iload_n 1, 1) := by decide +kernel
theorem dcm3_22 : decode jdk_52_method_16_code 22 = .ok (.iload_n 2, 1) := by decide +kernel
theorem dcm3_23 : decode jdk_52_method_16_code 23 = .ok (.invokestatic 119, 3) := by decide +kernel
theorem dcm3_26 : decode jdk_52_method_16_code 26 = .ok (.astore 5, 2) := by decide +kernel
theorem dcm3_28 : decode jdk_52_method_16_code 28 = .ok (.aload 5, 2) := by decide +kernel
theorem dcm3_30 : decode jdk_52_method_16_code 30 = .ok (.iload 4, 2) := by decide +kernel
theorem dcm3_32 : decode jdk_52_method_16_code 32 = .ok (.invokestatic 71, 3) := by decide +kernel
theorem dcm3_35 : decode jdk_52_method_16_code 35 = .ok (.sipush 255, 3) := by decide +kernel
theorem dcm3_38 : decode jdk_52_method_16_code 38 = .ok (.if_icmp .gt 16, 3) := by decide +kernel
theorem dcm3_41 : decode jdk_52_method_16_code 41 = .ok (.aload 5, 2) := by decide +kernel
theorem dcm3_43 : decode jdk_52_method_16_code 43 = .ok (.iconst 0, 1) := by decide +kernel
theorem dcm3_44 : decode jdk_52_method_16_code 44 = .ok (.aload_n 3, 1) := by decide +kernel
theorem dcm3_45 : decode jdk_52_method_16_code 45 = .ok (.iconst 0, 1) := by decide +kernel
theorem dcm3_46 : decode jdk_52_method_16_code 46 = .ok (.iload_n 2, 1) := by decide +kernel
theorem dcm3_47 : decode jdk_52_method_16_code 47 = .ok (.invokestatic 123, 3) := by decide +kernel
theorem dcm3_50 : decode jdk_52_method_16_code 50 = .ok (.iload_n 2, 1) := by decide +kernel
theorem dcm3_51 : decode jdk_52_method_16_code 51 = .ok (.if_icmp .eq 6, 3) := by decide +kernel
theorem dcm3_54 : decode jdk_52_method_16_code 54 = .ok (.aload 5, 2) := by decide +kernel
theorem dcm3_56 : decode jdk_52_method_16_code 56 = .ok (.areturn, 1) := by decide +kernel
theorem dcm3_57 : decode jdk_52_method_16_code 57 = .ok (.aload_n 3, 1) := by decide +kernel
theorem dcm3_58 : decode jdk_52_method_16_code 58 = .ok (.areturn, 1) := by decide +kernel
theorem efcm3 (m : MethodId) (x0 : Addr) (x1 : Int32) (x2 : Int32) : entryFrame m #[(.ref x0), (.int x1), (.int x2)] 6 = mkF m 0 #[.val (.ref x0), .val (.int x1), .val (.int x2), .unset, .unset, .unset] [] := by first | (simp [entryFrame, mkF, argsToLocals, Value.category]; done) | rfl
set_option maxRecDepth 65536 in
set_option maxHeartbeats 40000000 in
theorem rm_cm3 (l : Launch) (Z : State) (a0 : Array Value) (hw : ∀ d ∈ tables_1, d.before a0 Z = true) (ws : List Jvm.Cond) (s1 : Addr) (ks : ClassId) (ds : Value) (c0 : Int32) (c1 : Int32) (c2 : Int32) (h0 : Heap) (n0 : Nat) (Z0 : n0 ≤ h0.size) (V1 : Arv Z h0 s1 ks .char (3 : Int32) (([c0, c1, c2] : List Int32).map Value.int) ds) (hbig : 255 < c0 ∨ 255 < c1 ∨ 255 < c2) (hr : ∀ c ∈ ([c0, c1, c2] : List Int32), ¬ c < 0 ∧ ¬ (65535 : Int32) < c) (SA : Sta Z h0 "java/lang/StringUTF16" "$assertionsDisabled" "Z" (.int 1)) (SH : Sta Z h0 "java/lang/StringUTF16" "HI_BYTE_SHIFT" "I" (.int 0)) (SL : Sta Z h0 "java/lang/StringUTF16" "LO_BYTE_SHIFT" "I" (.int 8)) :
    own_Met l Z ws (⟨"java/lang/StringUTF16", "compress", "([CII)[B"⟩ : MethodName) jdk_52_method_16_code 6 (some (.array .byte)) ({ frames := 3, cells := 2, slots := 9, locals := 50 } : Room) #[(.ref s1), (.int 0), (.int 3)] h0 (fun v h L => ∃ (b : Addr) (kb : ClassId), v = some (.ref b) ∧ Fr n0 L ∧ Keep h0 h [] ∧ n0 ≤ b ∧ h0.size ≤ b ∧ Arv Z h b kb .byte (6 : Int32) (StrChars.Road.wideBytes ([c0, c1, c2] : List Int32)) (.int 0)) := by
  refine own_body (plainFor_of_name pn_0) ?_
  intro p e s m below meth c s₁ hx hby hml hret hlk hown hnm hZ X0 e0
  have hml : c.maxLocals = 6 := hml
  have hown : s.vm.findClass "java/lang/StringUTF16" = some m.cls := hown
  have N0 := Fr.nil n0
  refine own_cast (efcm3 m s1 (0 : Int32) (3 : Int32)) ?_
  show oG p e below _ s₁ (mkF m 0 #[.val (.ref s1), .val (.int 0), .val (.int 3), .unset, .unset, .unset] [])
  refine oS (fun t k => XS.iloadN X0.here hx rfl (hb hby dcm3_0) rfl  k) ?_
  show oG p e below _ s₁ (mkF m 1 #[.val (.ref s1), .val (.int 0), .val (.int 3), .unset, .unset, .unset] [(.int 3)])
  obtain ⟨T1, h1, k1, X1, e1, E1, A1, st1⟩ := newP X0 hx hZ (oW hw 15 rfl) e0 (g := (mkF m 1 #[.val (.ref s1), .val (.int 0), .val (.int 3), .unset, .unset, .unset] [(.int 3)])) rfl (hb hby dcm3_1) rfl (by decide) (cap := 3) (by decide) (by decide) (by decide) (by decide)
  obtain ⟨b1, g1⟩ : ∃ z, z = h0.size := ⟨_, rfl⟩
  rw [← g1] at A1 st1
  have V1' : Arv Z h1 b1 k1 .byte (3 : Int32) [(.int 0), (.int 0), (.int 0)] (.int 0) := (Arv.new A1 (by decide)).pad (pad_rep [] (.int 0) 3)
  refine oS st1 ?_
  show oG p e below _ T1 (mkF m 3 #[.val (.ref s1), .val (.int 0), .val (.int 3), .unset, .unset, .unset] [(.ref b1)])
  have Z1 : n0 ≤ h1.size := Nat.le_trans Z0 E1.1
  have g0 : n0 ≤ b1 := Nat.le_trans Z0 (Nat.le_of_eq g1.symm)
  have ne : s1 ≠ b1 := Nat.ne_of_lt (Nat.lt_of_lt_of_le V1.lt (Nat.le_of_eq g1.symm))
  have zb : h0.size ≤ b1 := Nat.le_of_eq g1.symm
  refine oS (fun t k => XS.astoreN X1.here hx rfl (hb hby dcm3_3) rfl rfl (l' := #[.val (.ref s1), .val (.int 0), .val (.int 3), .val (.ref b1), .unset, .unset]) rfl k) ?_
  show oG p e below _ T1 (mkF m 4 #[.val (.ref s1), .val (.int 0), .val (.int 3), .val (.ref b1), .unset, .unset] [])
  refine oS (fun t k => XS.aloadN X1.here hx rfl (hb hby dcm3_4) rfl rfl k) ?_
  refine oS (fun t k => XS.iloadN X1.here hx rfl (hb hby dcm3_5) rfl  k) ?_
  refine oS (fun t k => XS.aloadN X1.here hx rfl (hb hby dcm3_6) rfl rfl k) ?_
  refine oS (fun t k => XS.iconst X1.here hx rfl (hb hby dcm3_7) k) ?_
  refine oS (fun t k => XS.iloadN X1.here hx rfl (hb hby dcm3_8) rfl  k) ?_
  show oG p e below _ T1 (mkF m 9 #[.val (.ref s1), .val (.int 0), .val (.int 3), .val (.ref b1), .unset, .unset] [(.int 3), (.int 0), (.ref b1), (.int 0), (.ref s1)])
  refine own_callS X1 hx hZ (y := (⟨"java/lang/StringUTF16", "compress", "([CI[BII)I"⟩ : MethodName)) (W := 0) (kc := 0) (ks := 0) hown (oW hw 36 rfl) (oW hw 37 rfl) (oW hw 34 rfl) (oW hw 38 rfl) (own_back (W := 0) (rm_ci3 l Z a0 hw [] s1 b1 ks k1 ds c0 c1 c2 h1 n0 Z1 (V1.ext E1) V1' ne g0 hbig) hZ (oW hw 38 rfl) (oW hw 34 rfl) (by decide) (by decide)) (by decide) (g := (mkF m 9 #[.val (.ref s1), .val (.int 0), .val (.int 3), .val (.ref b1), .unset, .unset] [(.int 3), (.int 0), (.ref b1), (.int 0), (.ref s1)])) rfl (by rw [hml]; rfl) (argsL := [(.ref s1), (.int 0), (.ref b1), (.int 0), (.int 3)]) (rest := []) (lenOf pd_9 rfl) rfl (by show 2 * 0 + _ ≤ _; exact Nat.le_of_eq rfl) (hb hby dcm3_9) rfl e1 (by decide) (by decide) (fun v9 T9 L9 X9 hQ9 => ?_)
  obtain ⟨kx, rfl, M9, K9, hk⟩ := hQ9
  have N9 := Fr.app N0 M9
  have KK9 : Keep h0 T9.heap [] := ((Keep.refl h0 []).ext E1).trans K9 (allS (Or.inr zb) all0)
  have Z9 : n0 ≤ T9.heap.size := Nat.le_trans Z1 K9.1
  have V9 := V1.keep KK9 nin0
  have SA9 := own_staK0 SA KK9
  have SH9 := own_staK0 SH KK9
  have SL9 := own_staK0 SL KK9
  show oG p e below _ T9 (mkF m 12 #[.val (.ref s1), .val (.int 0), .val (.int 3), .val (.ref b1), .unset, .unset] [(.int kx)])
  refine oS (fun t k => XS.istore X9.here hx rfl (hb hby dcm3_12) rfl (l' := #[.val (.ref s1), .val (.int 0), .val (.int 3), .val (.ref b1), .val (.int kx), .unset]) rfl k) ?_
  show oG p e below _ T9 (mkF m 14 #[.val (.ref s1), .val (.int 0), .val (.int 3), .val (.ref b1), .val (.int kx), .unset] [])
  refine oS (fun t k => XS.iload X9.here hx rfl (hb hby dcm3_14) rfl  k) ?_
  refine oS (fun t k => XS.iloadN X9.here hx rfl (hb hby dcm3_16) rfl  k) ?_
  show oG p e below _ T9 (mkF m 17 #[.val (.ref s1), .val (.int 0), .val (.int 3), .val (.ref b1), .val (.int kx), .unset] [(.int 3), (.int kx)])
  rcases hk with ⟨rfl, hk⟩ | ⟨rfl, hk⟩ | ⟨rfl, hk⟩
  · show oG p e below _ T9 (mkF m 17 #[.val (.ref s1), .val (.int 0), .val (.int 3), .val (.ref b1), .val (.int 0), .unset] [(.int 3), (.int 0)])
    refine oS (fun t k => XS.icmpNo X9.here hx rfl (hb hby dcm3_17) rfl (feq (by decide : ¬ (0 : Int32) = (3 : Int32))).1 k) ?_
    show oG p e below _ T9 (mkF m 20 #[.val (.ref s1), .val (.int 0), .val (.int 3), .val (.ref b1), .val (.int 0), .unset] [])
    refine oS (fun t k => XS.aloadN X9.here hx rfl (hb hby dcm3_20) rfl rfl k) ?_
    refine oS (fun t k => XS.iloadN X9.here hx rfl (hb hby dcm3_21) rfl  k) ?_
    refine oS (fun t k => XS.iloadN X9.here hx rfl (hb hby dcm3_22) rfl  k) ?_
    show oG p e below _ T9 (mkF m 23 #[.val (.ref s1), .val (.int 0), .val (.int 3), .val (.ref b1), .val (.int 0), .unset] [(.int 3), (.int 0), (.ref s1)])
    refine own_callS X9 hx hZ (y := (⟨"java/lang/StringUTF16", "toBytes", "([CII)[B"⟩ : MethodName)) (W := 0) (kc := 1) (ks := 6) hown (oW hw 80 rfl) (oW hw 81 rfl) (oW hw 34 rfl) (oW hw 82 rfl) (own_back (W := 0) (rm_tb3 l Z a0 hw [] s1 ks ds c0 c1 c2 T9.heap n0 Z9 V9 SA9 SH9 SL9) hZ (oW hw 82 rfl) (oW hw 34 rfl) (by decide) (by decide)) (by decide) (g := (mkF m 23 #[.val (.ref s1), .val (.int 0), .val (.int 3), .val (.ref b1), .val (.int 0), .unset] [(.int 3), (.int 0), (.ref s1)])) rfl (by rw [hml]; rfl) (argsL := [(.ref s1), (.int 0), (.int 3)]) (rest := []) (lenOf pd_10 rfl) rfl (by show 2 * 0 + _ ≤ _; exact Nat.le_of_eq rfl) (hb hby dcm3_23) rfl rfl (by decide) (by decide) (fun v23 T23 L23 X23 hQ23 => ?_)
    obtain ⟨kb, rfl, M23, K23, B23⟩ := hQ23
    have N23 := Fr.app N9 M23
    have KK23 : Keep h0 T23.heap [] := KK9.trans K23 all0
    have Z23 : n0 ≤ T23.heap.size := Nat.le_trans Z9 K23.1
    have SA23 := own_staK0 SA9 K23
    have SH23 := own_staK0 SH9 K23
    have SL23 := own_staK0 SL9 K23
    show oG p e below _ T23 (mkF m 26 #[.val (.ref s1), .val (.int 0), .val (.int 3), .val (.ref b1), .val (.int 0), .unset] [(.ref T9.heap.size)])
    refine oS (fun t k => XS.astore X23.here hx rfl (hb hby dcm3_26) rfl rfl (l' := #[.val (.ref s1), .val (.int 0), .val (.int 3), .val (.ref b1), .val (.int 0), .val (.ref T9.heap.size)]) rfl k) ?_
    show oG p e below _ T23 (mkF m 28 #[.val (.ref s1), .val (.int 0), .val (.int 3), .val (.ref b1), .val (.int 0), .val (.ref T9.heap.size)] [])
    refine oS (fun t k => XS.aload X23.here hx rfl (hb hby dcm3_28) rfl rfl k) ?_
    refine oS (fun t k => XS.iload X23.here hx rfl (hb hby dcm3_30) rfl  k) ?_
    show oG p e below _ T23 (mkF m 32 #[.val (.ref s1), .val (.int 0), .val (.int 3), .val (.ref b1), .val (.int 0), .val (.ref T9.heap.size)] [(.int 0), (.ref T9.heap.size)])
    refine own_callS X23 hx hZ (y := (⟨"java/lang/StringUTF16", "getChar", "([BI)C"⟩ : MethodName)) (W := 0) (kc := 0) (ks := 0) hown (oW hw 96 rfl) (oW hw 97 rfl) (oW hw 34 rfl) (oW hw 98 rfl) (own_back (W := 0) (rm_gc l Z a0 hw [] T9.heap.size 0 kb ([c0, c1, c2] : List Int32) T23.heap n0 Z23 B23 (Nat.le_of_ble_eq_true rfl) hr (Nat.le_of_ble_eq_true rfl) SA23 SH23 SL23) hZ (oW hw 98 rfl) (oW hw 34 rfl) (by decide) (by decide)) (by decide) (g := (mkF m 32 #[.val (.ref s1), .val (.int 0), .val (.int 3), .val (.ref b1), .val (.int 0), .val (.ref T9.heap.size)] [(.int 0), (.ref T9.heap.size)])) rfl (by rw [hml]; rfl) (argsL := [(.ref T9.heap.size), (.int 0)]) (rest := []) (lenOf pd_4 rfl) rfl (by show 2 * 0 + _ ≤ _; exact Nat.le_of_eq rfl) (hb hby dcm3_32) rfl rfl (by decide) (by decide) (fun v32 T32 L32 X32 hQ32 => ?_)
    obtain ⟨rfl, M32, e32⟩ := hQ32
    have N32 := Fr.app N23 M32
    show oG p e below _ T32 (mkF m 35 #[.val (.ref s1), .val (.int 0), .val (.int 3), .val (.ref b1), .val (.int 0), .val (.ref T9.heap.size)] [(.int c0)])
    refine oS (fun t k => XS.sipush X32.here hx rfl (hb hby dcm3_35) k) ?_
    show oG p e below _ T32 (mkF m 38 #[.val (.ref s1), .val (.int 0), .val (.int 3), .val (.ref b1), .val (.int 0), .val (.ref T9.heap.size)] [(.int 255), (.int c0)])
    refine oS (fun t k => XS.icmpYes X32.here hx rfl (pc0 := 38) (pc' := 54) rfl (hb hby dcm3_38) rfl (tlt hk).2.2.1 (by decide) (by decide) k) ?_
    show oG p e below _ T32 (mkF m 54 #[.val (.ref s1), .val (.int 0), .val (.int 3), .val (.ref b1), .val (.int 0), .val (.ref T9.heap.size)] [])
    refine oS (fun t k => XS.aload X32.here hx rfl (hb hby dcm3_54) rfl rfl k) ?_
    show oG p e below _ T32 (mkF m 56 #[.val (.ref s1), .val (.int 0), .val (.int 3), .val (.ref b1), .val (.int 0), .val (.ref T9.heap.size)] [(.ref T9.heap.size)])
    refine own_retA X32 hx hlk hret rfl rfl (hb hby dcm3_56) ?_ (by decide) (by decide)
    rw [e32]
    exact ⟨_, kb, rfl, N32, KK23, Z9, KK9.1, B23⟩
  · show oG p e below _ T9 (mkF m 17 #[.val (.ref s1), .val (.int 0), .val (.int 3), .val (.ref b1), .val (.int 1), .unset] [(.int 3), (.int 1)])
    refine oS (fun t k => XS.icmpNo X9.here hx rfl (hb hby dcm3_17) rfl (feq (by decide : ¬ (1 : Int32) = (3 : Int32))).1 k) ?_
    show oG p e below _ T9 (mkF m 20 #[.val (.ref s1), .val (.int 0), .val (.int 3), .val (.ref b1), .val (.int 1), .unset] [])
    refine oS (fun t k => XS.aloadN X9.here hx rfl (hb hby dcm3_20) rfl rfl k) ?_
    refine oS (fun t k => XS.iloadN X9.here hx rfl (hb hby dcm3_21) rfl  k) ?_
    refine oS (fun t k => XS.iloadN X9.here hx rfl (hb hby dcm3_22) rfl  k) ?_
    show oG p e below _ T9 (mkF m 23 #[.val (.ref s1), .val (.int 0), .val (.int 3), .val (.ref b1), .val (.int 1), .unset] [(.int 3), (.int 0), (.ref s1)])
    refine own_callS X9 hx hZ (y := (⟨"java/lang/StringUTF16", "toBytes", "([CII)[B"⟩ : MethodName)) (W := 0) (kc := 1) (ks := 6) hown (oW hw 80 rfl) (oW hw 81 rfl) (oW hw 34 rfl) (oW hw 82 rfl) (own_back (W := 0) (rm_tb3 l Z a0 hw [] s1 ks ds c0 c1 c2 T9.heap n0 Z9 V9 SA9 SH9 SL9) hZ (oW hw 82 rfl) (oW hw 34 rfl) (by decide) (by decide)) (by decide) (g := (mkF m 23 #[.val (.ref s1), .val (.int 0), .val (.int 3), .val (.ref b1), .val (.int 1), .unset] [(.int 3), (.int 0), (.ref s1)])) rfl (by rw [hml]; rfl) (argsL := [(.ref s1), (.int 0), (.int 3)]) (rest := []) (lenOf pd_10 rfl) rfl (by show 2 * 0 + _ ≤ _; exact Nat.le_of_eq rfl) (hb hby dcm3_23) rfl rfl (by decide) (by decide) (fun v23 T23 L23 X23 hQ23 => ?_)
    obtain ⟨kb, rfl, M23, K23, B23⟩ := hQ23
    have N23 := Fr.app N9 M23
    have KK23 : Keep h0 T23.heap [] := KK9.trans K23 all0
    have Z23 : n0 ≤ T23.heap.size := Nat.le_trans Z9 K23.1
    have SA23 := own_staK0 SA9 K23
    have SH23 := own_staK0 SH9 K23
    have SL23 := own_staK0 SL9 K23
    show oG p e below _ T23 (mkF m 26 #[.val (.ref s1), .val (.int 0), .val (.int 3), .val (.ref b1), .val (.int 1), .unset] [(.ref T9.heap.size)])
    refine oS (fun t k => XS.astore X23.here hx rfl (hb hby dcm3_26) rfl rfl (l' := #[.val (.ref s1), .val (.int 0), .val (.int 3), .val (.ref b1), .val (.int 1), .val (.ref T9.heap.size)]) rfl k) ?_
    show oG p e below _ T23 (mkF m 28 #[.val (.ref s1), .val (.int 0), .val (.int 3), .val (.ref b1), .val (.int 1), .val (.ref T9.heap.size)] [])
    refine oS (fun t k => XS.aload X23.here hx rfl (hb hby dcm3_28) rfl rfl k) ?_
    refine oS (fun t k => XS.iload X23.here hx rfl (hb hby dcm3_30) rfl  k) ?_
    show oG p e below _ T23 (mkF m 32 #[.val (.ref s1), .val (.int 0), .val (.int 3), .val (.ref b1), .val (.int 1), .val (.ref T9.heap.size)] [(.int 1), (.ref T9.heap.size)])
    refine own_callS X23 hx hZ (y := (⟨"java/lang/StringUTF16", "getChar", "([BI)C"⟩ : MethodName)) (W := 0) (kc := 0) (ks := 0) hown (oW hw 96 rfl) (oW hw 97 rfl) (oW hw 34 rfl) (oW hw 98 rfl) (own_back (W := 0) (rm_gc l Z a0 hw [] T9.heap.size 1 kb ([c0, c1, c2] : List Int32) T23.heap n0 Z23 B23 (Nat.le_of_ble_eq_true rfl) hr (Nat.le_of_ble_eq_true rfl) SA23 SH23 SL23) hZ (oW hw 98 rfl) (oW hw 34 rfl) (by decide) (by decide)) (by decide) (g := (mkF m 32 #[.val (.ref s1), .val (.int 0), .val (.int 3), .val (.ref b1), .val (.int 1), .val (.ref T9.heap.size)] [(.int 1), (.ref T9.heap.size)])) rfl (by rw [hml]; rfl) (argsL := [(.ref T9.heap.size), (.int 1)]) (rest := []) (lenOf pd_4 rfl) rfl (by show 2 * 0 + _ ≤ _; exact Nat.le_of_eq rfl) (hb hby dcm3_32) rfl rfl (by decide) (by decide) (fun v32 T32 L32 X32 hQ32 => ?_)
    obtain ⟨rfl, M32, e32⟩ := hQ32
    have N32 := Fr.app N23 M32
    show oG p e below _ T32 (mkF m 35 #[.val (.ref s1), .val (.int 0), .val (.int 3), .val (.ref b1), .val (.int 1), .val (.ref T9.heap.size)] [(.int c1)])
    refine oS (fun t k => XS.sipush X32.here hx rfl (hb hby dcm3_35) k) ?_
    show oG p e below _ T32 (mkF m 38 #[.val (.ref s1), .val (.int 0), .val (.int 3), .val (.ref b1), .val (.int 1), .val (.ref T9.heap.size)] [(.int 255), (.int c1)])
    refine oS (fun t k => XS.icmpYes X32.here hx rfl (pc0 := 38) (pc' := 54) rfl (hb hby dcm3_38) rfl (tlt hk).2.2.1 (by decide) (by decide) k) ?_
    show oG p e below _ T32 (mkF m 54 #[.val (.ref s1), .val (.int 0), .val (.int 3), .val (.ref b1), .val (.int 1), .val (.ref T9.heap.size)] [])
    refine oS (fun t k => XS.aload X32.here hx rfl (hb hby dcm3_54) rfl rfl k) ?_
    show oG p e below _ T32 (mkF m 56 #[.val (.ref s1), .val (.int 0), .val (.int 3), .val (.ref b1), .val (.int 1), .val (.ref T9.heap.size)] [(.ref T9.heap.size)])
    refine own_retA X32 hx hlk hret rfl rfl (hb hby dcm3_56) ?_ (by decide) (by decide)
    rw [e32]
    exact ⟨_, kb, rfl, N32, KK23, Z9, KK9.1, B23⟩
  · show oG p e below _ T9 (mkF m 17 #[.val (.ref s1), .val (.int 0), .val (.int 3), .val (.ref b1), .val (.int 2), .unset] [(.int 3), (.int 2)])
    refine oS (fun t k => XS.icmpNo X9.here hx rfl (hb hby dcm3_17) rfl (feq (by decide : ¬ (2 : Int32) = (3 : Int32))).1 k) ?_
    show oG p e below _ T9 (mkF m 20 #[.val (.ref s1), .val (.int 0), .val (.int 3), .val (.ref b1), .val (.int 2), .unset] [])
    refine oS (fun t k => XS.aloadN X9.here hx rfl (hb hby dcm3_20) rfl rfl k) ?_
    refine oS (fun t k => XS.iloadN X9.here hx rfl (hb hby dcm3_21) rfl  k) ?_
    refine oS (fun t k => XS.iloadN X9.here hx rfl (hb hby dcm3_22) rfl  k) ?_
    show oG p e below _ T9 (mkF m 23 #[.val (.ref s1), .val (.int 0), .val (.int 3), .val (.ref b1), .val (.int 2), .unset] [(.int 3), (.int 0), (.ref s1)])
    refine own_callS X9 hx hZ (y := (⟨"java/lang/StringUTF16", "toBytes", "([CII)[B"⟩ : MethodName)) (W := 0) (kc := 1) (ks := 6) hown (oW hw 80 rfl) (oW hw 81 rfl) (oW hw 34 rfl) (oW hw 82 rfl) (own_back (W := 0) (rm_tb3 l Z a0 hw [] s1 ks ds c0 c1 c2 T9.heap n0 Z9 V9 SA9 SH9 SL9) hZ (oW hw 82 rfl) (oW hw 34 rfl) (by decide) (by decide)) (by decide) (g := (mkF m 23 #[.val (.ref s1), .val (.int 0), .val (.int 3), .val (.ref b1), .val (.int 2), .unset] [(.int 3), (.int 0), (.ref s1)])) rfl (by rw [hml]; rfl) (argsL := [(.ref s1), (.int 0), (.int 3)]) (rest := []) (lenOf pd_10 rfl) rfl (by show 2 * 0 + _ ≤ _; exact Nat.le_of_eq rfl) (hb hby dcm3_23) rfl rfl (by decide) (by decide) (fun v23 T23 L23 X23 hQ23 => ?_)
    obtain ⟨kb, rfl, M23, K23, B23⟩ := hQ23
    have N23 := Fr.app N9 M23
    have KK23 : Keep h0 T23.heap [] := KK9.trans K23 all0
    have Z23 : n0 ≤ T23.heap.size := Nat.le_trans Z9 K23.1
    have SA23 := own_staK0 SA9 K23
    have SH23 := own_staK0 SH9 K23
    have SL23 := own_staK0 SL9 K23
    show oG p e below _ T23 (mkF m 26 #[.val (.ref s1), .val (.int 0), .val (.int 3), .val (.ref b1), .val (.int 2), .unset] [(.ref T9.heap.size)])
    refine oS (fun t k => XS.astore X23.here hx rfl (hb hby dcm3_26) rfl rfl (l' := #[.val (.ref s1), .val (.int 0), .val (.int 3), .val (.ref b1), .val (.int 2), .val (.ref T9.heap.size)]) rfl k) ?_
    show oG p e below _ T23 (mkF m 28 #[.val (.ref s1), .val (.int 0), .val (.int 3), .val (.ref b1), .val (.int 2), .val (.ref T9.heap.size)] [])
    refine oS (fun t k => XS.aload X23.here hx rfl (hb hby dcm3_28) rfl rfl k) ?_
    refine oS (fun t k => XS.iload X23.here hx rfl (hb hby dcm3_30) rfl  k) ?_
    show oG p e below _ T23 (mkF m 32 #[.val (.ref s1), .val (.int 0), .val (.int 3), .val (.ref b1), .val (.int 2), .val (.ref T9.heap.size)] [(.int 2), (.ref T9.heap.size)])
    refine own_callS X23 hx hZ (y := (⟨"java/lang/StringUTF16", "getChar", "([BI)C"⟩ : MethodName)) (W := 0) (kc := 0) (ks := 0) hown (oW hw 96 rfl) (oW hw 97 rfl) (oW hw 34 rfl) (oW hw 98 rfl) (own_back (W := 0) (rm_gc l Z a0 hw [] T9.heap.size 2 kb ([c0, c1, c2] : List Int32) T23.heap n0 Z23 B23 (Nat.le_of_ble_eq_true rfl) hr (Nat.le_of_ble_eq_true rfl) SA23 SH23 SL23) hZ (oW hw 98 rfl) (oW hw 34 rfl) (by decide) (by decide)) (by decide) (g := (mkF m 32 #[.val (.ref s1), .val (.int 0), .val (.int 3), .val (.ref b1), .val (.int 2), .val (.ref T9.heap.size)] [(.int 2), (.ref T9.heap.size)])) rfl (by rw [hml]; rfl) (argsL := [(.ref T9.heap.size), (.int 2)]) (rest := []) (lenOf pd_4 rfl) rfl (by show 2 * 0 + _ ≤ _; exact Nat.le_of_eq rfl) (hb hby dcm3_32) rfl rfl (by decide) (by decide) (fun v32 T32 L32 X32 hQ32 => ?_)
    obtain ⟨rfl, M32, e32⟩ := hQ32
    have N32 := Fr.app N23 M32
    show oG p e below _ T32 (mkF m 35 #[.val (.ref s1), .val (.int 0), .val (.int 3), .val (.ref b1), .val (.int 2), .val (.ref T9.heap.size)] [(.int c2)])
    refine oS (fun t k => XS.sipush X32.here hx rfl (hb hby dcm3_35) k) ?_
    show oG p e below _ T32 (mkF m 38 #[.val (.ref s1), .val (.int 0), .val (.int 3), .val (.ref b1), .val (.int 2), .val (.ref T9.heap.size)] [(.int 255), (.int c2)])
    refine oS (fun t k => XS.icmpYes X32.here hx rfl (pc0 := 38) (pc' := 54) rfl (hb hby dcm3_38) rfl (tlt hk).2.2.1 (by decide) (by decide) k) ?_
    show oG p e below _ T32 (mkF m 54 #[.val (.ref s1), .val (.int 0), .val (.int 3), .val (.ref b1), .val (.int 2), .val (.ref T9.heap.size)] [])
    refine oS (fun t k => XS.aload X32.here hx rfl (hb hby dcm3_54) rfl rfl k) ?_
    show oG p e below _ T32 (mkF m 56 #[.val (.ref s1), .val (.int 0), .val (.int 3), .val (.ref b1), .val (.int 2), .val (.ref T9.heap.size)] [(.ref T9.heap.size)])
    refine own_retA X32 hx hlk hret rfl rfl (hb hby dcm3_56) ?_ (by decide) (by decide)
    rw [e32]
    exact ⟨_, kb, rfl, N32, KK23, Z9, KK9.1, B23⟩
theorem dcf3_0 : decode jdk_52_method_15_code 0 = .ok (.iload_n 1, 1) := by decide +kernel
theorem dcf3_1 : decode jdk_52_method_15_code 1 = .ok (.aload_n 0, 1) := by decide +kernel
theorem dcf3_2 : decode jdk_52_method_15_code 2 = .ok (.arraylength, 1) := by decide +kernel
theorem dcf3_3 : decode jdk_52_method_15_code 3 = .ok (.isub, 1) := by decide +kernel
theorem dcf3_4 : decode jdk_52_method_15_code 4 = .ok (.bipush 31, 2) := by decide +kernel
theorem dcf3_6 : decode jdk_52_method_15_code 6 = .ok (.iushr, 1) := by decide +kernel
theorem dcf3_7 : decode jdk_52_method_15_code 7 = .ok (.i2b, 1) := by decide +kernel
theorem dcf3_8 : decode jdk_52_method_15_code 8 = .ok (.ireturn, 1) := by decide +kernel
theorem efcf3 (m : MethodId) (x0 : Addr) (x1 : Int32) : entryFrame m #[(.ref x0), (.int x1)] 2 = mkF m 0 #[.val (.ref x0), .val (.int x1)] [] := by first | (simp [entryFrame, mkF, argsToLocals, Value.category]; done) | rfl
set_option maxRecDepth 65536 in
set_option maxHeartbeats 40000000 in
theorem rm_cf3 (l : Launch) (Z : State) (a0 : Array Value) (hw : ∀ d ∈ tables_1, d.before a0 Z = true) (ws : List Jvm.Cond) (b1 : Addr) (kb : ClassId) (vs : List Value) (d : Value) (h0 : Heap) (n0 : Nat) (Z0 : n0 ≤ h0.size) (V1 : Arv Z h0 b1 kb .byte (6 : Int32) vs d) :
    own_Met l Z ws (⟨"java/lang/StringUTF16", "coderFromArrayLen", "([BI)B"⟩ : MethodName) jdk_52_method_15_code 2 (some .byte) ({ frames := 0, cells := 0, slots := 0, locals := 0 } : Room) #[(.ref b1), (.int 3)] h0 (fun v h L => v = some (.int 1) ∧ Fr n0 L ∧ h = h0) := by
  refine own_body (plainFor_of_name pn_0) ?_
  intro p e s m below meth c s₁ hx hby hml hret hlk hown hnm hZ X0 e0
  have hml : c.maxLocals = 2 := hml
  have hown : s.vm.findClass "java/lang/StringUTF16" = some m.cls := hown
  have N0 := Fr.nil n0
  refine own_cast (efcf3 m b1 (3 : Int32)) ?_
  show oG p e below _ s₁ (mkF m 0 #[.val (.ref b1), .val (.int 3)] [])
  refine oS (fun t k => XS.iloadN X0.here hx rfl (hb hby dcf3_0) rfl  k) ?_
  refine oS (fun t k => XS.aloadN X0.here hx rfl (hb hby dcf3_1) rfl rfl k) ?_
  show oG p e below _ s₁ (mkF m 2 #[.val (.ref b1), .val (.int 3)] [(.ref b1), (.int 3)])
  obtain ⟨cl2, Ar2, -, S2, M2, -, -⟩ := id V1
  refine oS (X0.arraylength hx (by rw [e0]; exact Ar2.1) (State.isArrayOf_alike hZ.alike Ar2.2.1) (g := (mkF m 2 #[.val (.ref b1), .val (.int 3)] [(.ref b1), (.int 3)])) rfl rfl (hb hby dcf3_2)) ?_
  rw [len_of S2 M2]
  show oG p e below _ s₁ (mkF m 3 #[.val (.ref b1), .val (.int 3)] [(.int 6), (.int 3)])
  refine oS (fun t k => XS.isub X0.here hx rfl (hb hby dcf3_3) rfl k) ?_
  show oG p e below _ s₁ (mkF m 4 #[.val (.ref b1), .val (.int 3)] [(.int ((3 : Int32) - (6 : Int32)))])
  refine oS (fun t k => XS.bipush X0.here hx rfl (hb hby dcf3_4) k) ?_
  refine oS (fun t k => XS.iushr X0.here hx rfl (hb hby dcf3_6) rfl k) ?_
  show oG p e below _ s₁ (mkF m 7 #[.val (.ref b1), .val (.int 3)] [(.int ((((3 : Int32) - (6 : Int32)).toUInt32 >>> ((31 : Int32) &&& 31).toUInt32).toInt32))])
  refine oS (fun t k => XS.i2b X0.here hx rfl (hb hby dcf3_7) rfl k) ?_
  show oG p e below _ s₁ (mkF m 8 #[.val (.ref b1), .val (.int 3)] [(.int (((((3 : Int32) - (6 : Int32)).toUInt32 >>> ((31 : Int32) &&& 31).toUInt32).toInt32).toInt8.toInt32))])
  rw [(by decide : (((((3 : Int32) - (6 : Int32)).toUInt32 >>> ((31 : Int32) &&& 31).toUInt32).toInt32).toInt8.toInt32) = (1 : Int32))]
  show oG p e below _ s₁ (mkF m 8 #[.val (.ref b1), .val (.int 3)] [(.int 1)])
  refine own_retN (t := .byte) X0 hx hlk hret (by simp) (hb hby dcf3_8) ?_ (by decide) (by decide)
  rw [e0]
  exact ⟨rfl, N0, rfl⟩
theorem own_big3 {c0 c1 c2 : Int32} (h : 255 < c0 ∨ 255 < c1 ∨ 255 < c2) : ∃ c ∈ ([c0, c1, c2] : List Int32), 255 < c := by
  simp only [List.mem_cons, List.not_mem_nil, or_false]
  rcases h with h | h | h
  · exact ⟨c0, Or.inl rfl, h⟩
  · exact ⟨c1, Or.inr (Or.inl rfl), h⟩
  · exact ⟨c2, Or.inr (Or.inr (rfl)), h⟩
theorem dsv3_0 : decode jdk_42_method_149_code 0 = .ok (.aload_n 0, 1) := by decide +kernel
theorem dsv3_1 : decode jdk_42_method_149_code 1 = .ok (.invokespecial 1, 3) := by decide +kernel
theorem dsv3_4 : decode jdk_42_method_149_code 4 = .ok (.iload_n 3, 1) := by decide +kernel
theorem dsv3_5 : decode jdk_42_method_149_code 5 = .ok (.ifCond .ne 22, 3) := by decide +kernel
theorem dsv3_8 : decode jdk_42_method_149_code 8 = .ok (.aload_n 0, 1) := by decide +kernel
theorem dsv3_9 : decode jdk_42_method_149_code 9 = .ok (.ldc 7, 2) := by decide +kernel
theorem dsv3_11 : decode jdk_42_method_149_code 11 = .ok (.getfield 9, 3) := by decide +kernel
theorem dsv3_14 : decode jdk_42_method_149_code 14 = .ok (.putfield 9, 3) := by decide +kernel
theorem dsv3_17 : decode jdk_42_method_149_code 17 = .ok (.aload_n 0, 1) := by decide +kernel
theorem dsv3_18 : decode jdk_42_method_149_code 18 = .ok (.ldc 7, 2) := by decide +kernel
theorem dsv3_20 : decode jdk_42_method_149_code 20 = .ok (.getfield 15, 3) := by decide +kernel
theorem dsv3_23 : decode jdk_42_method_149_code 23 = .ok (.putfield 15, 3) := by decide +kernel
theorem dsv3_26 : decode jdk_42_method_149_code 26 = .ok (.return_, 1) := by decide +kernel
theorem dsv3_27 : decode jdk_42_method_149_code 27 = .ok (.getstatic 38, 3) := by decide +kernel
theorem dsv3_30 : decode jdk_42_method_149_code 30 = .ok (.ifCond .eq 28, 3) := by decide +kernel
theorem dsv3_33 : decode jdk_42_method_149_code 33 = .ok (.aload_n 1, 1) := by decide +kernel
theorem dsv3_34 : decode jdk_42_method_149_code 34 = .ok (.iload_n 2, 1) := by decide +kernel
theorem dsv3_35 : decode jdk_42_method_149_code 35 = .ok (.iload_n 3, 1) := by decide +kernel
theorem dsv3_36 : decode jdk_42_method_149_code 36 = .ok (.invokestatic 177, 3) := by decide +kernel
theorem dsv3_39 : decode jdk_42_method_149_code 39 = .ok (.astore 5, 2) := by decide +kernel
theorem dsv3_41 : decode jdk_42_method_149_code 41 = .ok (.aload_n 0, 1) := by decide +kernel
theorem dsv3_42 : decode jdk_42_method_149_code 42 = .ok (.aload 5, 2) := by decide +kernel
theorem dsv3_44 : decode jdk_42_method_149_code 44 = .ok (.iload_n 3, 1) := by decide +kernel
theorem dsv3_45 : decode jdk_42_method_149_code 45 = .ok (.invokestatic 47, 3) := by decide +kernel
theorem dsv3_48 : decode jdk_42_method_149_code 48 = .ok (.putfield 15, 3) := by decide +kernel
theorem dsv3_51 : decode jdk_42_method_149_code 51 = .ok (.aload_n 0, 1) := by decide +kernel
theorem dsv3_52 : decode jdk_42_method_149_code 52 = .ok (.aload 5, 2) := by decide +kernel
theorem dsv3_54 : decode jdk_42_method_149_code 54 = .ok (.putfield 9, 3) := by decide +kernel
theorem dsv3_57 : decode jdk_42_method_149_code 57 = .ok (.return_, 1) := by decide +kernel
theorem dsv3_58 : decode jdk_42_method_149_code 58 = .ok (.aload_n 0, 1) := by decide +kernel
theorem dsv3_59 : decode jdk_42_method_149_code 59 = .ok (.iconst 1, 1) := by decide +kernel
theorem dsv3_60 : decode jdk_42_method_149_code 60 = .ok (.putfield 15, 3) := by decide +kernel
theorem dsv3_63 : decode jdk_42_method_149_code 63 = .ok (.aload_n 0, 1) := by decide +kernel
theorem dsv3_64 : decode jdk_42_method_149_code 64 = .ok (.aload_n 1, 1) := by decide +kernel
theorem dsv3_65 : decode jdk_42_method_149_code 65 = .ok (.iload_n 2, 1) := by decide +kernel
theorem dsv3_66 : decode jdk_42_method_149_code 66 = .ok (.iload_n 3, 1) := by decide +kernel
theorem dsv3_67 : decode jdk_42_method_149_code 67 = .ok (.invokestatic 180, 3) := by decide +kernel
theorem dsv3_70 : decode jdk_42_method_149_code 70 = .ok (.putfield 9, 3) := by decide +kernel
theorem dsv3_73 : decode jdk_42_method_149_code 73 = .ok (.return_, 1) := by decide +kernel
theorem efsv3 (m : MethodId) (x0 : Addr) (x1 : Addr) (x2 : Int32) (x3 : Int32) : entryFrame m #[(.ref x0), (.ref x1), (.int x2), (.int x3), .null] 6 = mkF m 0 #[.val (.ref x0), .val (.ref x1), .val (.int x2), .val (.int x3), .val .null, .unset] [] := by first | (simp [entryFrame, mkF, argsToLocals, Value.category]; done) | rfl
set_option maxRecDepth 65536 in
set_option maxHeartbeats 40000000 in
theorem rm_sv3 (l : Launch) (Z : State) (a0 : Array Value) (hw : ∀ d ∈ tables_1, d.before a0 Z = true) (ws : List Jvm.Cond) (x1 : Addr) (s1 : Addr) (ks : ClassId) (ds : Value) (v0 : Value) (c0v : Value) (CS : Int32) (c0 : Int32) (c1 : Int32) (c2 : Int32) (h0 : Heap) (n0 : Nat) (Z0 : n0 ≤ h0.size) (E1 : Exa Z h0 x1 "java/lang/String") (F1 : Fld Z h0 x1 "java/lang/String" "value" "[B" v0) (C1 : Fld Z h0 x1 "java/lang/String" "coder" "B" c0v) (gx : n0 ≤ x1) (V1 : Arv Z h0 s1 ks .char (3 : Int32) (([c0, c1, c2] : List Int32).map Value.int) ds) (hbig : 255 < c0 ∨ 255 < c1 ∨ 255 < c2) (hr : ∀ c ∈ ([c0, c1, c2] : List Int32), ¬ c < 0 ∧ ¬ (65535 : Int32) < c) (SA : Sta Z h0 "java/lang/StringUTF16" "$assertionsDisabled" "Z" (.int 1)) (SH : Sta Z h0 "java/lang/StringUTF16" "HI_BYTE_SHIFT" "I" (.int 0)) (SL : Sta Z h0 "java/lang/StringUTF16" "LO_BYTE_SHIFT" "I" (.int 8)) (SC : Sta Z h0 "java/lang/String" "COMPACT_STRINGS" "Z" (.int CS)) (hCS : ¬ CS = 0) :
    own_Met l Z ws (⟨"java/lang/String", "<init>", "([CIILjava/lang/Void;)V"⟩ : MethodName) jdk_42_method_149_code 6 none ({ frames := 4, cells := 2, slots := 9, locals := 70 } : Room) #[(.ref x1), (.ref s1), (.int 0), (.int 3), .null] h0 (own_QS Z x1 ([c0, c1, c2] : List Int32) h0 n0) := by
  refine own_body (plainFor_of_name pn_2) ?_
  intro p e s m below meth c s₁ hx hby hml hret hlk hown hnm hZ X0 e0
  have hml : c.maxLocals = 6 := hml
  have hown : s.vm.findClass "java/lang/String" = some m.cls := hown
  have N0 := Fr.nil n0
  refine own_cast (efsv3 m x1 s1 (0 : Int32) (3 : Int32)) ?_
  show oG p e below _ s₁ (mkF m 0 #[.val (.ref x1), .val (.ref s1), .val (.int 0), .val (.int 3), .val .null, .unset] [])
  refine oS (fun t k => XS.aloadN X0.here hx rfl (hb hby dsv3_0) rfl rfl k) ?_
  show oG p e below _ s₁ (mkF m 1 #[.val (.ref x1), .val (.ref s1), .val (.int 0), .val (.int 3), .val .null, .unset] [(.ref x1)])
  obtain ⟨T1, X1, e1, st1⟩ := initO X0 hx hZ hown (oW hw 11 rfl) (oW hw 12 rfl) (oW hw 13 rfl) e0 (g := (mkF m 1 #[.val (.ref x1), .val (.ref s1), .val (.int 0), .val (.int 3), .val .null, .unset] [(.ref x1)])) rfl (by rw [hml]; rfl) rfl (hb hby dsv3_1) (by decide) (W := 0) (by show 2 * 0 + _ ≤ _; exact Nat.le_of_eq rfl) (by decide)
  refine oS st1 ?_
  show oG p e below _ T1 (mkF m 4 #[.val (.ref x1), .val (.ref s1), .val (.int 0), .val (.int 3), .val .null, .unset] [])
  refine oS (fun t k => XS.iloadN X1.here hx rfl (hb hby dsv3_4) rfl  k) ?_
  show oG p e below _ T1 (mkF m 5 #[.val (.ref x1), .val (.ref s1), .val (.int 0), .val (.int 3), .val .null, .unset] [(.int 3)])
  refine oS (fun t k => XS.ifYes X1.here hx rfl (pc0 := 5) (pc' := 27) rfl (hb hby dsv3_5) rfl ((if0 _ _).trans (feq (by decide : ¬ (3 : Int32) = 0)).2) (by decide) (by decide) k) ?_
  show oG p e below _ T1 (mkF m 27 #[.val (.ref x1), .val (.ref s1), .val (.int 0), .val (.int 3), .val .null, .unset] [])
  obtain ⟨T27, X27, e27, st27⟩ := getS2 X1 hx hZ hown (host := "") (Or.inl (oW hw 31 rfl)) Via.refl e1 SC (g := (mkF m 27 #[.val (.ref x1), .val (.ref s1), .val (.int 0), .val (.int 3), .val .null, .unset] [])) rfl (hb hby dsv3_27)
  refine oS st27 ?_
  show oG p e below _ T27 (mkF m 30 #[.val (.ref x1), .val (.ref s1), .val (.int 0), .val (.int 3), .val .null, .unset] [(.int CS)])
  refine oS (fun t k => XS.ifNo X27.here hx rfl (hb hby dsv3_30) rfl ((if0 _ _).trans (feq hCS).1) k) ?_
  show oG p e below _ T27 (mkF m 33 #[.val (.ref x1), .val (.ref s1), .val (.int 0), .val (.int 3), .val .null, .unset] [])
  refine oS (fun t k => XS.aloadN X27.here hx rfl (hb hby dsv3_33) rfl rfl k) ?_
  refine oS (fun t k => XS.iloadN X27.here hx rfl (hb hby dsv3_34) rfl  k) ?_
  refine oS (fun t k => XS.iloadN X27.here hx rfl (hb hby dsv3_35) rfl  k) ?_
  show oG p e below _ T27 (mkF m 36 #[.val (.ref x1), .val (.ref s1), .val (.int 0), .val (.int 3), .val .null, .unset] [(.int 3), (.int 0), (.ref s1)])
  refine own_callS X27 hx hZ (y := (⟨"java/lang/StringUTF16", "compress", "([CII)[B"⟩ : MethodName)) (W := 0) (kc := 2) (ks := 9) hown (oW hw 32 rfl) (oW hw 33 rfl) (oW hw 34 rfl) (oW hw 35 rfl) (own_back (W := 0) (rm_cm3 l Z a0 hw [] s1 ks ds c0 c1 c2 h0 n0 Z0 V1 hbig hr SA SH SL) hZ (oW hw 35 rfl) (oW hw 34 rfl) (by decide) (by decide)) (by decide) (g := (mkF m 36 #[.val (.ref x1), .val (.ref s1), .val (.int 0), .val (.int 3), .val .null, .unset] [(.int 3), (.int 0), (.ref s1)])) rfl (by rw [hml]; rfl) (argsL := [(.ref s1), (.int 0), (.int 3)]) (rest := []) (lenOf pd_10 rfl) rfl (by show 2 * 0 + _ ≤ _; exact Nat.le_of_eq rfl) (hb hby dsv3_36) rfl e27 (by decide) (by decide) (fun v36 T36 L36 X36 hQ36 => ?_)
  obtain ⟨b, kb, rfl, M36, K36, gb, zb, B36⟩ := hQ36
  have N36 := Fr.app N0 M36
  have Z36 : n0 ≤ T36.heap.size := Nat.le_trans Z0 K36.1
  have E36 := E1.keep K36
  have F36 := F1.keep K36 nin0
  have C36 := C1.keep K36 nin0
  have nb : b ≠ x1 := Nat.ne_of_gt (Nat.lt_of_lt_of_le E1.lt zb)
  show oG p e below _ T36 (mkF m 39 #[.val (.ref x1), .val (.ref s1), .val (.int 0), .val (.int 3), .val .null, .unset] [(.ref b)])
  refine oS (fun t k => XS.astore X36.here hx rfl (hb hby dsv3_39) rfl rfl (l' := #[.val (.ref x1), .val (.ref s1), .val (.int 0), .val (.int 3), .val .null, .val (.ref b)]) rfl k) ?_
  show oG p e below _ T36 (mkF m 41 #[.val (.ref x1), .val (.ref s1), .val (.int 0), .val (.int 3), .val .null, .val (.ref b)] [])
  refine oS (fun t k => XS.aloadN X36.here hx rfl (hb hby dsv3_41) rfl rfl k) ?_
  refine oS (fun t k => XS.aload X36.here hx rfl (hb hby dsv3_42) rfl rfl k) ?_
  refine oS (fun t k => XS.iloadN X36.here hx rfl (hb hby dsv3_44) rfl  k) ?_
  show oG p e below _ T36 (mkF m 45 #[.val (.ref x1), .val (.ref s1), .val (.int 0), .val (.int 3), .val .null, .val (.ref b)] [(.int 3), (.ref b), (.ref x1)])
  refine own_callS X36 hx hZ (y := (⟨"java/lang/StringUTF16", "coderFromArrayLen", "([BI)B"⟩ : MethodName)) (W := 1) (kc := 0) (ks := 0) hown (oW hw 39 rfl) (oW hw 40 rfl) (oW hw 34 rfl) (oW hw 41 rfl) (own_back (W := 1) (rm_cf3 l Z a0 hw [] b kb _ _ T36.heap n0 Z36 B36) hZ (oW hw 41 rfl) (oW hw 34 rfl) (by decide) (by decide)) (by decide) (g := (mkF m 45 #[.val (.ref x1), .val (.ref s1), .val (.int 0), .val (.int 3), .val .null, .val (.ref b)] [(.int 3), (.ref b), (.ref x1)])) rfl (by rw [hml]; rfl) (argsL := [(.ref b), (.int 3)]) (rest := [(.ref x1)]) (lenOf pd_11 rfl) rfl (by show 2 * 0 + _ ≤ _; exact Nat.le_of_eq rfl) (hb hby dsv3_45) rfl rfl (by decide) (by decide) (fun v45 T45 L45 X45 hQ45 => ?_)
  obtain ⟨rfl, M45, e45⟩ := hQ45
  have N45 := Fr.app N36 M45
  show oG p e below _ T45 (mkF m 48 #[.val (.ref x1), .val (.ref s1), .val (.int 0), .val (.int 3), .val .null, .val (.ref b)] [(.int 1), (.ref x1)])
  obtain ⟨T48, h48, X48, e48, W48, st48⟩ := putFN X45 hx hZ hown (oW hw 21 rfl) Via.refl e45 C36 E36 (Or.inr ⟨(oW hw 17 rfl), rfl, hnm⟩) (oW hw 1 rfl) (ty := .byte) (v' := (.int 1)) (by decide) rfl rfl (g := (mkF m 48 #[.val (.ref x1), .val (.ref s1), .val (.int 0), .val (.int 3), .val .null, .val (.ref b)] [(.int 1), (.ref x1)])) rfl rfl (hb hby dsv3_48)
  refine oS st48 ?_
  have N48 := Fr.snoc X48 N45 gx
  have E48_o := E36.wr W48
  have F48_value := F36.other W48 (Or.inr (slot_ne (Or.inr (oW hw 16 rfl)) (Or.inr (oW hw 17 rfl)) (by decide) (t := (.array .byte)) (t' := .byte) (by decide) (by decide)))
  have F48_coder := C36.same W48
  show oG p e below _ T48 (mkF m 51 #[.val (.ref x1), .val (.ref s1), .val (.int 0), .val (.int 3), .val .null, .val (.ref b)] [])
  have B48 := B36.other W48 nb
  refine oS (fun t k => XS.aloadN X48.here hx rfl (hb hby dsv3_51) rfl rfl k) ?_
  refine oS (fun t k => XS.aload X48.here hx rfl (hb hby dsv3_52) rfl rfl k) ?_
  show oG p e below _ T48 (mkF m 54 #[.val (.ref x1), .val (.ref s1), .val (.int 0), .val (.int 3), .val .null, .val (.ref b)] [(.ref b), (.ref x1)])
  obtain ⟨T54, h54, X54, e54, W54, st54⟩ := putF X48 hx hZ hown (host := "") (Or.inl (oW hw 20 rfl)) Via.refl e48 F48_value E48_o (Or.inr ⟨(oW hw 16 rfl), rfl, hnm⟩) (oW hw 1 rfl) (ty := (.array .byte)) (by decide) rfl rfl (g := (mkF m 54 #[.val (.ref x1), .val (.ref s1), .val (.int 0), .val (.int 3), .val .null, .val (.ref b)] [(.ref b), (.ref x1)])) rfl rfl (hb hby dsv3_54)
  refine oS st54 ?_
  have N54 := Fr.snoc X54 N48 gx
  have E54_o := E48_o.wr W54
  have F54_value := F48_value.same W54
  have F54_coder := F48_coder.other W54 (Or.inr (slot_ne (Or.inr (oW hw 17 rfl)) (Or.inr (oW hw 16 rfl)) (by decide) (t := .byte) (t' := (.array .byte)) (by decide) (by decide)))
  show oG p e below _ T54 (mkF m 57 #[.val (.ref x1), .val (.ref s1), .val (.int 0), .val (.int 3), .val .null, .val (.ref b)] [])
  have B54 := B48.other W54 nb
  refine own_retV X54 hx hlk hret (hb hby dsv3_57) ?_ (by decide) (by decide)
  rw [e54]
  exact ⟨rfl, N54, (((Keep.refl h0 [x1]).trans K36 all0).wr W48 (Or.inl (List.mem_of_getElem? (i := 0) rfl))).wr W54 (Or.inl (List.mem_of_getElem? (i := 0) rfl)), b, kb, 1, (6 : Int32), _, E54_o, F54_value, F54_coder, B54, Or.inr ⟨rfl, rfl, rfl, own_big3 hbig⟩⟩
theorem dsn3_0 : decode jdk_42_method_3_code 0 = .ok (.aload_n 0, 1) := by decide +kernel
theorem dsn3_1 : decode jdk_42_method_3_code 1 = .ok (.aload_n 1, 1) := by decide +kernel
theorem dsn3_2 : decode jdk_42_method_3_code 2 = .ok (.iconst 0, 1) := by decide +kernel
theorem dsn3_3 : decode jdk_42_method_3_code 3 = .ok (.aload_n 1, 1) := by decide +kernel
theorem dsn3_4 : decode jdk_42_method_3_code 4 = .ok (.arraylength, 1) := by decide +kernel
theorem dsn3_5 : decode jdk_42_method_3_code 5 = .ok (.aconst_null, 1) := by decide +kernel
theorem dsn3_6 : decode jdk_42_method_3_code 6 = .ok (.invokespecial 27, 3) := by decide +kernel
theorem dsn3_9 : decode jdk_42_method_3_code 9 = .ok (.return_, 1) := by decide +kernel
theorem efsn3 (m : MethodId) (x0 : Addr) (x1 : Addr) : entryFrame m #[(.ref x0), (.ref x1)] 2 = mkF m 0 #[.val (.ref x0), .val (.ref x1)] [] := by first | (simp [entryFrame, mkF, argsToLocals, Value.category]; done) | rfl
set_option maxRecDepth 65536 in
set_option maxHeartbeats 40000000 in
theorem rm_s3 (l : Launch) (Z : State) (a0 : Array Value) (hw : ∀ d ∈ tables_1, d.before a0 Z = true) (ws : List Jvm.Cond) (x1 : Addr) (s1 : Addr) (ks : ClassId) (ds : Value) (v0 : Value) (c0v : Value) (CS : Int32) (c0 : Int32) (c1 : Int32) (c2 : Int32) (h0 : Heap) (n0 : Nat) (Z0 : n0 ≤ h0.size) (E1 : Exa Z h0 x1 "java/lang/String") (F1 : Fld Z h0 x1 "java/lang/String" "value" "[B" v0) (C1 : Fld Z h0 x1 "java/lang/String" "coder" "B" c0v) (gx : n0 ≤ x1) (V1 : Arv Z h0 s1 ks .char (3 : Int32) (([c0, c1, c2] : List Int32).map Value.int) ds) (hbig : 255 < c0 ∨ 255 < c1 ∨ 255 < c2) (hr : ∀ c ∈ ([c0, c1, c2] : List Int32), ¬ c < 0 ∧ ¬ (65535 : Int32) < c) (SA : Sta Z h0 "java/lang/StringUTF16" "$assertionsDisabled" "Z" (.int 1)) (SH : Sta Z h0 "java/lang/StringUTF16" "HI_BYTE_SHIFT" "I" (.int 0)) (SL : Sta Z h0 "java/lang/StringUTF16" "LO_BYTE_SHIFT" "I" (.int 8)) (SC : Sta Z h0 "java/lang/String" "COMPACT_STRINGS" "Z" (.int CS)) (hCS : ¬ CS = 0) :
    own_Met l Z ws (⟨"java/lang/String", "<init>", "([C)V"⟩ : MethodName) jdk_42_method_3_code 2 none ({ frames := 5, cells := 2, slots := 9, locals := 90 } : Room) #[(.ref x1), (.ref s1)] h0 (own_QS Z x1 ([c0, c1, c2] : List Int32) h0 n0) := by
  refine own_body (plainFor_of_name pn_2) ?_
  intro p e s m below meth c s₁ hx hby hml hret hlk hown hnm hZ X0 e0
  have hml : c.maxLocals = 2 := hml
  have hown : s.vm.findClass "java/lang/String" = some m.cls := hown
  have N0 := Fr.nil n0
  refine own_cast (efsn3 m x1 s1) ?_
  show oG p e below _ s₁ (mkF m 0 #[.val (.ref x1), .val (.ref s1)] [])
  refine oS (fun t k => XS.aloadN X0.here hx rfl (hb hby dsn3_0) rfl rfl k) ?_
  refine oS (fun t k => XS.aloadN X0.here hx rfl (hb hby dsn3_1) rfl rfl k) ?_
  refine oS (fun t k => XS.iconst X0.here hx rfl (hb hby dsn3_2) k) ?_
  refine oS (fun t k => XS.aloadN X0.here hx rfl (hb hby dsn3_3) rfl rfl k) ?_
  show oG p e below _ s₁ (mkF m 4 #[.val (.ref x1), .val (.ref s1)] [(.ref s1), (.int 0), (.ref s1), (.ref x1)])
  obtain ⟨cl4, Ar4, -, S4, M4, -, -⟩ := id V1
  refine oS (X0.arraylength hx (by rw [e0]; exact Ar4.1) (State.isArrayOf_alike hZ.alike Ar4.2.1) (g := (mkF m 4 #[.val (.ref x1), .val (.ref s1)] [(.ref s1), (.int 0), (.ref s1), (.ref x1)])) rfl rfl (hb hby dsn3_4)) ?_
  rw [len_of S4 M4]
  show oG p e below _ s₁ (mkF m 5 #[.val (.ref x1), .val (.ref s1)] [(.int 3), (.int 0), (.ref s1), (.ref x1)])
  refine oS (fun t k => XS.aconstNull X0.here hx rfl (hb hby dsn3_5) k) ?_
  show oG p e below _ s₁ (mkF m 6 #[.val (.ref x1), .val (.ref s1)] [.null, (.int 3), (.int 0), (.ref s1), (.ref x1)])
  refine own_callI X0 hx hZ (y := (⟨"java/lang/String", "<init>", "([CIILjava/lang/Void;)V"⟩ : MethodName)) (W := 0) (kc := 2) (ks := 9) rfl hown (oW hw 7 rfl) (oW hw 8 rfl) (oW hw 10 rfl) (own_back (W := 0) (rm_sv3 l Z a0 hw [] x1 s1 ks ds v0 c0v CS c0 c1 c2 h0 n0 Z0 E1 F1 C1 gx V1 hbig hr SA SH SL SC hCS) hZ (oW hw 10 rfl) (oW hw 2 rfl) (by decide) (by decide)) (by decide) (g := (mkF m 6 #[.val (.ref x1), .val (.ref s1)] [.null, (.int 3), (.int 0), (.ref s1), (.ref x1)])) rfl (by rw [hml]; rfl) (a := x1) (argsL := [(.ref s1), (.int 0), (.int 3), .null]) (rest := []) (lenOf pd_12 rfl) rfl (by show 2 * 0 + _ ≤ _; exact Nat.le_of_eq rfl) (hb hby dsn3_6) rfl e0 (by decide) (by decide) (fun v6 T6 L6 X6 hQ6 => ?_)
  obtain ⟨rfl, M6, K6, S6⟩ := hQ6
  show oG p e below _ T6 (mkF m 9 #[.val (.ref x1), .val (.ref s1)] [])
  refine own_retV X6 hx hlk hret (hb hby dsn3_9) ?_ (by decide) (by decide)
  exact ⟨rfl, Fr.app N0 M6, K6, S6⟩
theorem dnl4_0 : decode jdk_52_method_3_code 0 = .ok (.iload_n 0, 1) := by decide +kernel
theorem dnl4_1 : decode jdk_52_method_3_code 1 = .ok (.ifCond .ge 11, 3) := by decide +kernel
theorem dnl4_4 : decode jdk_52_method_3_code 4 = .ok (.new 17, 3) := by decide +kernel
theorem dnl4_7 : decode jdk_52_method_3_code 7 = .ok (.dup, 1) := by decide +kernel
theorem dnl4_8 : decode jdk_52_method_3_code 8 = .ok (.invokespecial 19, 3) := by decide +kernel
theorem dnl4_11 : decode jdk_52_method_3_code 11 = .ok (.athrow, 1) := by decide +kernel
theorem dnl4_12 : decode jdk_52_method_3_code 12 = .ok (.iload_n 0, 1) := by decide +kernel
theorem dnl4_13 : decode jdk_52_method_3_code 13 = .ok (.ldc 20, 2) := by decide +kernel
theorem dnl4_15 : decode jdk_52_method_3_code 15 = .ok (.if_icmp .lt 40, 3) := by decide +kernel
theorem dnl4_18 : decode jdk_52_method_3_code 18 = .ok (.new 21, 3) := by decide +kernel
theorem dnl4_21 : decode jdk_52_method_3_code 21 = .ok (.dup, 1) := by decide +kernel
theorem dnl4_22 : decode jdk_52_method_3_code 22 = .ok (.new 23, 3) := by decide +kernel
theorem dnl4_25 : decode jdk_52_method_3_code 25 = .ok (.dup, 1) := by decide +kernel
theorem dnl4_26 : decode jdk_52_method_3_code 26 = .ok (.invokespecial 25, 3) := by decide +kernel
theorem dnl4_29 : decode jdk_52_method_3_code 29 = .ok (.ldc 26, 2) := by decide +kernel
theorem dnl4_31 : decode jdk_52_method_3_code 31 = .ok (.invokevirtual 28, 3) := by decide +kernel
theorem dnl4_34 : decode jdk_52_method_3_code 34 = .ok (.iload_n 0, 1) := by decide +kernel
theorem dnl4_35 : decode jdk_52_method_3_code 35 = .ok (.invokevirtual 32, 3) := by decide +kernel
theorem dnl4_38 : decode jdk_52_method_3_code 38 = .ok (.ldc 35, 2) := by decide +kernel
theorem dnl4_40 : decode jdk_52_method_3_code 40 = .ok (.invokevirtual 28, 3) := by decide +kernel
theorem dnl4_43 : decode jdk_52_method_3_code 43 = .ok (.ldc 20, 2) := by decide +kernel
theorem dnl4_45 : decode jdk_52_method_3_code 45 = .ok (.invokevirtual 32, 3) := by decide +kernel
theorem dnl4_48 : decode jdk_52_method_3_code 48 = .ok (.invokevirtual 37, 3) := by decide +kernel
theorem dnl4_51 : decode jdk_52_method_3_code 51 = .ok (.invokespecial 41, 3) := by decide +kernel
theorem dnl4_54 : decode jdk_52_method_3_code 54 = .ok (.athrow, 1) := by decide +kernel
theorem dnl4_55 : decode jdk_52_method_3_code 55 = .ok (.iload_n 0, 1) := by decide +kernel
theorem dnl4_56 : decode jdk_52_method_3_code 56 = .ok (.iconst 1, 1) := by decide +kernel
theorem dnl4_57 : decode jdk_52_method_3_code 57 = .ok (.ishl, 1) := by decide +kernel
theorem dnl4_58 : decode jdk_52_method_3_code 58 = .ok (.ireturn, 1) := by decide +kernel
theorem efnl4 (m : MethodId) (x0 : Int32) : entryFrame m #[(.int x0)] 1 = mkF m 0 #[.val (.int x0)] [] := by first | (simp [entryFrame, mkF, argsToLocals, Value.category]; done) | rfl
set_option maxRecDepth 65536 in
set_option maxHeartbeats 40000000 in
theorem rm_nl4 (l : Launch) (Z : State) (a0 : Array Value) (hw : ∀ d ∈ tables_1, d.before a0 Z = true) (ws : List Jvm.Cond) (h0 : Heap) (n0 : Nat) (Z0 : n0 ≤ h0.size) :
    own_Met l Z ws (⟨"java/lang/StringUTF16", "newBytesLength", "(I)I"⟩ : MethodName) jdk_52_method_3_code 1 (some .int) ({ frames := 0, cells := 0, slots := 0, locals := 0 } : Room) #[(.int 4)] h0 (fun v h L => v = some (.int 8) ∧ Fr n0 L ∧ h = h0) := by
  refine own_body (plainFor_of_name pn_0) ?_
  intro p e s m below meth c s₁ hx hby hml hret hlk hown hnm hZ X0 e0
  have hml : c.maxLocals = 1 := hml
  have hown : s.vm.findClass "java/lang/StringUTF16" = some m.cls := hown
  have N0 := Fr.nil n0
  refine own_cast (efnl4 m (4 : Int32)) ?_
  show oG p e below _ s₁ (mkF m 0 #[.val (.int 4)] [])
  refine oS (fun t k => XS.iloadN X0.here hx rfl (hb hby dnl4_0) rfl  k) ?_
  show oG p e below _ s₁ (mkF m 1 #[.val (.int 4)] [(.int 4)])
  refine oS (fun t k => XS.ifYes X0.here hx rfl (pc0 := 1) (pc' := 12) rfl (hb hby dnl4_1) rfl ((if0 _ _).trans (flt (by decide : ¬ (4 : Int32) < 0)).2.1) (by decide) (by decide) k) ?_
  show oG p e below _ s₁ (mkF m 12 #[.val (.int 4)] [])
  refine oS (fun t k => XS.iloadN X0.here hx rfl (hb hby dnl4_12) rfl  k) ?_
  show oG p e below _ s₁ (mkF m 13 #[.val (.int 4)] [(.int 4)])
  refine oS (X0.ldcInt hx hown (mvT hZ (oW hw 89 rfl)) (g := (mkF m 13 #[.val (.int 4)] [(.int 4)])) rfl (hb hby dnl4_13)) ?_
  show oG p e below _ s₁ (mkF m 15 #[.val (.int 4)] [(.int 1073741823), (.int 4)])
  refine oS (fun t k => XS.icmpYes X0.here hx rfl (pc0 := 15) (pc' := 55) rfl (hb hby dnl4_15) rfl (tlt (by decide : (4 : Int32) < 1073741823)).1 (by decide) (by decide) k) ?_
  show oG p e below _ s₁ (mkF m 55 #[.val (.int 4)] [])
  refine oS (fun t k => XS.iloadN X0.here hx rfl (hb hby dnl4_55) rfl  k) ?_
  refine oS (fun t k => XS.iconst X0.here hx rfl (hb hby dnl4_56) k) ?_
  refine oS (fun t k => XS.ishl X0.here hx rfl (hb hby dnl4_57) rfl k) ?_
  show oG p e below _ s₁ (mkF m 58 #[.val (.int 4)] [(.int ((4 : Int32) <<< ((1 : Int32) &&& 31)))])
  rw [(by decide : ((4 : Int32) <<< ((1 : Int32) &&& 31)) = (8 : Int32))]
  show oG p e below _ s₁ (mkF m 58 #[.val (.int 4)] [(.int 8)])
  refine own_retI X0 hx hlk hret (hb hby dnl4_58) ?_ (by decide) (by decide)
  rw [e0]
  exact ⟨rfl, N0, rfl⟩
theorem dnf4_0 : decode jdk_52_method_2_code 0 = .ok (.iload_n 0, 1) := by decide +kernel
theorem dnf4_1 : decode jdk_52_method_2_code 1 = .ok (.invokestatic 11, 3) := by decide +kernel
theorem dnf4_4 : decode jdk_52_method_2_code 4 = .ok (.newarray .byte, 2) := by decide +kernel
theorem dnf4_6 : decode jdk_52_method_2_code 6 = .ok (.areturn, 1) := by decide +kernel
theorem efnf4 (m : MethodId) (x0 : Int32) : entryFrame m #[(.int x0)] 1 = mkF m 0 #[.val (.int x0)] [] := by first | (simp [entryFrame, mkF, argsToLocals, Value.category]; done) | rfl
set_option maxRecDepth 65536 in
set_option maxHeartbeats 40000000 in
theorem rm_nf4 (l : Launch) (Z : State) (a0 : Array Value) (hw : ∀ d ∈ tables_1, d.before a0 Z = true) (ws : List Jvm.Cond) (h0 : Heap) (n0 : Nat) (Z0 : n0 ≤ h0.size) :
    own_Met l Z ws (⟨"java/lang/StringUTF16", "newBytesFor", "(I)[B"⟩ : MethodName) jdk_52_method_2_code 1 (some (.array .byte)) ({ frames := 1, cells := 1, slots := 8, locals := 12 } : Room) #[(.int 4)] h0 (fun v h L => ∃ kb, v = some (.ref h0.size) ∧ Fr n0 L ∧ Ext h0 h ∧ Arv Z h h0.size kb .byte (8 : Int32) [(.int 0), (.int 0), (.int 0), (.int 0), (.int 0), (.int 0), (.int 0), (.int 0)] (.int 0)) := by
  refine own_body (plainFor_of_name pn_0) ?_
  intro p e s m below meth c s₁ hx hby hml hret hlk hown hnm hZ X0 e0
  have hml : c.maxLocals = 1 := hml
  have hown : s.vm.findClass "java/lang/StringUTF16" = some m.cls := hown
  have N0 := Fr.nil n0
  refine own_cast (efnf4 m (4 : Int32)) ?_
  show oG p e below _ s₁ (mkF m 0 #[.val (.int 4)] [])
  refine oS (fun t k => XS.iloadN X0.here hx rfl (hb hby dnf4_0) rfl  k) ?_
  show oG p e below _ s₁ (mkF m 1 #[.val (.int 4)] [(.int 4)])
  refine own_callS X0 hx hZ (y := (⟨"java/lang/StringUTF16", "newBytesLength", "(I)I"⟩ : MethodName)) (W := 0) (kc := 0) (ks := 0) hown (oW hw 86 rfl) (oW hw 87 rfl) (oW hw 34 rfl) (oW hw 88 rfl) (own_back (W := 0) (rm_nl4 l Z a0 hw [] h0 n0 Z0) hZ (oW hw 88 rfl) (oW hw 34 rfl) (by decide) (by decide)) (by decide) (g := (mkF m 1 #[.val (.int 4)] [(.int 4)])) rfl (by rw [hml]; rfl) (argsL := [(.int 4)]) (rest := []) (lenOf pd_6 rfl) rfl (by show 2 * 0 + _ ≤ _; exact Nat.le_of_eq rfl) (hb hby dnf4_1) rfl e0 (by decide) (by decide) (fun v1 T1 L1 X1 hQ1 => ?_)
  obtain ⟨rfl, M1, e1⟩ := hQ1
  show oG p e below _ T1 (mkF m 4 #[.val (.int 4)] [(.int 8)])
  obtain ⟨T4, h4, k4, X4, e4, E4, A4, st4⟩ := newP X1 hx hZ (oW hw 15 rfl) e1 (g := (mkF m 4 #[.val (.int 4)] [(.int 8)])) rfl (hb hby dnf4_4) rfl (by decide) (cap := 8) (by decide) (by decide) (by decide) (by decide)
  obtain ⟨b4, g4⟩ : ∃ z, z = h0.size := ⟨_, rfl⟩
  rw [← g4] at A4 st4
  have V4 : Arv Z h4 b4 k4 .byte (8 : Int32) [(.int 0), (.int 0), (.int 0), (.int 0), (.int 0), (.int 0), (.int 0), (.int 0)] (.int 0) := (Arv.new A4 (by decide)).pad (pad_rep [] (.int 0) 8)
  refine oS st4 ?_
  show oG p e below _ T4 (mkF m 6 #[.val (.int 4)] [(.ref b4)])
  subst g4
  show oG p e below _ T4 (mkF m 6 #[.val (.int 4)] [(.ref h0.size)])
  refine own_retA X4 hx hlk hret rfl rfl (hb hby dnf4_6) ?_ (by decide) (by decide)
  rw [e4]
  exact ⟨k4, rfl, Fr.app N0 M1, E4, V4⟩
theorem dtb4_0 : decode jdk_52_method_14_code 0 = .ok (.iload_n 2, 1) := by decide +kernel
theorem dtb4_1 : decode jdk_52_method_14_code 1 = .ok (.invokestatic 107, 3) := by decide +kernel
theorem dtb4_4 : decode jdk_52_method_14_code 4 = .ok (.astore_n 3, 1) := by decide +kernel
theorem dtb4_5 : decode jdk_52_method_14_code 5 = .ok (.iconst 0, 1) := by decide +kernel
theorem dtb4_6 : decode jdk_52_method_14_code 6 = .ok (.istore 4, 2) := by decide +kernel
theorem dtb4_8 : decode jdk_52_method_14_code 8 = .ok (.iload 4, 2) := by decide +kernel
theorem dtb4_10 : decode jdk_52_method_14_code 10 = .ok (.iload_n 2, 1) := by decide +kernel
theorem dtb4_11 : decode jdk_52_method_14_code 11 = .ok (.if_icmp .ge 21, 3) := by decide +kernel
theorem dtb4_14 : decode jdk_52_method_14_code 14 = .ok (.aload_n 3, 1) := by decide +kernel
theorem dtb4_15 : decode jdk_52_method_14_code 15 = .ok (.iload 4, 2) := by decide +kernel
theorem dtb4_17 : decode jdk_52_method_14_code 17 = .ok (.aload_n 0, 1) := by decide +kernel
theorem dtb4_18 : decode jdk_52_method_14_code 18 = .ok (.iload_n 1, 1) := by decide +kernel
theorem dtb4_19 : decode jdk_52_method_14_code 19 = .ok (.caload, 1) := by decide +kernel
theorem dtb4_20 : decode jdk_52_method_14_code 20 = .ok (.invokestatic 111, 3) := by decide +kernel
theorem dtb4_23 : decode jdk_52_method_14_code 23 = .ok (.iinc 1 1, 3) := by decide +kernel
theorem dtb4_26 : decode jdk_52_method_14_code 26 = .ok (.iinc 4 1, 3) := by decide +kernel
theorem dtb4_29 : decode jdk_52_method_14_code 29 = .ok (.goto (-21), 3) := by decide +kernel
theorem dtb4_32 : decode jdk_52_method_14_code 32 = .ok (.aload_n 3, 1) := by decide +kernel
theorem dtb4_33 : decode jdk_52_method_14_code 33 = .ok (.areturn, 1) := by decide +kernel
theorem eftb4 (m : MethodId) (x0 : Addr) (x1 : Int32) (x2 : Int32) : entryFrame m #[(.ref x0), (.int x1), (.int x2)] 5 = mkF m 0 #[.val (.ref x0), .val (.int x1), .val (.int x2), .unset, .unset] [] := by first | (simp [entryFrame, mkF, argsToLocals, Value.category]; done) | rfl
set_option maxRecDepth 65536 in
set_option maxHeartbeats 40000000 in
theorem rm_tb4 (l : Launch) (Z : State) (a0 : Array Value) (hw : ∀ d ∈ tables_1, d.before a0 Z = true) (ws : List Jvm.Cond) (s1 : Addr) (ks : ClassId) (ds : Value) (c0 : Int32) (c1 : Int32) (c2 : Int32) (c3 : Int32) (h0 : Heap) (n0 : Nat) (Z0 : n0 ≤ h0.size) (V1 : Arv Z h0 s1 ks .char (4 : Int32) (([c0, c1, c2, c3] : List Int32).map Value.int) ds) (SA : Sta Z h0 "java/lang/StringUTF16" "$assertionsDisabled" "Z" (.int 1)) (SH : Sta Z h0 "java/lang/StringUTF16" "HI_BYTE_SHIFT" "I" (.int 0)) (SL : Sta Z h0 "java/lang/StringUTF16" "LO_BYTE_SHIFT" "I" (.int 8)) :
    own_Met l Z ws (⟨"java/lang/StringUTF16", "toBytes", "([CII)[B"⟩ : MethodName) jdk_52_method_14_code 5 (some (.array .byte)) ({ frames := 2, cells := 1, slots := 8, locals := 30 } : Room) #[(.ref s1), (.int 0), (.int 4)] h0 (fun v h L => ∃ kb, v = some (.ref h0.size) ∧ Fr n0 L ∧ Keep h0 h [] ∧ Arv Z h h0.size kb .byte (8 : Int32) (StrChars.Road.wideBytes ([c0, c1, c2, c3] : List Int32)) (.int 0)) := by
  refine own_body (plainFor_of_name pn_0) ?_
  intro p e s m below meth c s₁ hx hby hml hret hlk hown hnm hZ X0 e0
  have hml : c.maxLocals = 5 := hml
  have hown : s.vm.findClass "java/lang/StringUTF16" = some m.cls := hown
  have N0 := Fr.nil n0
  refine own_cast (eftb4 m s1 (0 : Int32) (4 : Int32)) ?_
  show oG p e below _ s₁ (mkF m 0 #[.val (.ref s1), .val (.int 0), .val (.int 4), .unset, .unset] [])
  refine oS (fun t k => XS.iloadN X0.here hx rfl (hb hby dtb4_0) rfl  k) ?_
  show oG p e below _ s₁ (mkF m 1 #[.val (.ref s1), .val (.int 0), .val (.int 4), .unset, .unset] [(.int 4)])
  refine own_callS X0 hx hZ (y := (⟨"java/lang/StringUTF16", "newBytesFor", "(I)[B"⟩ : MethodName)) (W := 0) (kc := 1) (ks := 8) hown (oW hw 83 rfl) (oW hw 84 rfl) (oW hw 34 rfl) (oW hw 85 rfl) (own_back (W := 0) (rm_nf4 l Z a0 hw [] h0 n0 Z0) hZ (oW hw 85 rfl) (oW hw 34 rfl) (by decide) (by decide)) (by decide) (g := (mkF m 1 #[.val (.ref s1), .val (.int 0), .val (.int 4), .unset, .unset] [(.int 4)])) rfl (by rw [hml]; rfl) (argsL := [(.int 4)]) (rest := []) (lenOf pd_7 rfl) rfl (by show 2 * 0 + _ ≤ _; exact Nat.le_of_eq rfl) (hb hby dtb4_1) rfl e0 (by decide) (by decide) (fun v1 T1 L1 X1 hQ1 => ?_)
  obtain ⟨kb, rfl, M1, E1, B1⟩ := hQ1
  have N1 := Fr.app N0 M1
  have KK1 : Keep h0 T1.heap [] := (Keep.refl h0 []).ext E1
  have Z1 : n0 ≤ T1.heap.size := Nat.le_trans Z0 E1.1
  have W1 := V1.ext E1
  have ne1 : s1 ≠ h0.size := Nat.ne_of_lt V1.lt
  have SA1 := SA.ext E1
  have SH1 := SH.ext E1
  have SL1 := SL.ext E1
  show oG p e below _ T1 (mkF m 4 #[.val (.ref s1), .val (.int 0), .val (.int 4), .unset, .unset] [(.ref h0.size)])
  refine oS (fun t k => XS.astoreN X1.here hx rfl (hb hby dtb4_4) rfl rfl (l' := #[.val (.ref s1), .val (.int 0), .val (.int 4), .val (.ref h0.size), .unset]) rfl k) ?_
  show oG p e below _ T1 (mkF m 5 #[.val (.ref s1), .val (.int 0), .val (.int 4), .val (.ref h0.size), .unset] [])
  refine oS (fun t k => XS.iconst X1.here hx rfl (hb hby dtb4_5) k) ?_
  refine oS (fun t k => XS.istore X1.here hx rfl (hb hby dtb4_6) rfl (l' := #[.val (.ref s1), .val (.int 0), .val (.int 4), .val (.ref h0.size), .val (.int 0)]) rfl k) ?_
  show oG p e below _ T1 (mkF m 8 #[.val (.ref s1), .val (.int 0), .val (.int 4), .val (.ref h0.size), .val (.int 0)] [])
  refine oS (fun t k => XS.iload X1.here hx rfl (hb hby dtb4_8) rfl  k) ?_
  refine oS (fun t k => XS.iloadN X1.here hx rfl (hb hby dtb4_10) rfl  k) ?_
  show oG p e below _ T1 (mkF m 11 #[.val (.ref s1), .val (.int 0), .val (.int 4), .val (.ref h0.size), .val (.int 0)] [(.int 4), (.int 0)])
  refine oS (fun t k => XS.icmpNo X1.here hx rfl (hb hby dtb4_11) rfl (tlt (by decide : (0 : Int32) < (4 : Int32))).2.1 k) ?_
  show oG p e below _ T1 (mkF m 14 #[.val (.ref s1), .val (.int 0), .val (.int 4), .val (.ref h0.size), .val (.int 0)] [])
  refine oS (fun t k => XS.aloadN X1.here hx rfl (hb hby dtb4_14) rfl rfl k) ?_
  refine oS (fun t k => XS.iload X1.here hx rfl (hb hby dtb4_15) rfl  k) ?_
  refine oS (fun t k => XS.aloadN X1.here hx rfl (hb hby dtb4_17) rfl rfl k) ?_
  refine oS (fun t k => XS.iloadN X1.here hx rfl (hb hby dtb4_18) rfl  k) ?_
  show oG p e below _ T1 (mkF m 19 #[.val (.ref s1), .val (.int 0), .val (.int 4), .val (.ref h0.size), .val (.int 0)] [(.int 0), (.ref s1), (.int 0), (.ref h0.size)])
  obtain ⟨cli0, Ari0, -, Si0, Mi0, Hi0, Gi0⟩ := id W1
  have hini0 : ¬ ((0 : Int32) < 0 ∨ cli0.slots.size ≤ ((0 : Int32)).toNatClampNeg) := inb_of Si0 ⟨by decide, by decide⟩
  refine oS (X1.caload hx (j := (0 : Int32)) (v := (.int c0)) Ari0.1 (State.isArrayOf_alike hZ.alike Ari0.2.1) Ari0.2.2 hini0 (Has.at Hi0 hini0 rfl) (g := (mkF m 19 #[.val (.ref s1), .val (.int 0), .val (.int 4), .val (.ref h0.size), .val (.int 0)] [(.int 0), (.ref s1), (.int 0), (.ref h0.size)])) rfl rfl (hb hby dtb4_19)) ?_
  show oG p e below _ T1 (mkF m 20 #[.val (.ref s1), .val (.int 0), .val (.int 4), .val (.ref h0.size), .val (.int 0)] [(.int c0), (.int 0), (.ref h0.size)])
  refine own_callS X1 hx hZ (y := (⟨"java/lang/StringUTF16", "putChar", "([BII)V"⟩ : MethodName)) (W := 0) (kc := 0) (ks := 0) hown (oW hw 90 rfl) (oW hw 91 rfl) (oW hw 34 rfl) (oW hw 92 rfl) (own_back (W := 0) (rm_pu0 l Z a0 hw [] h0.size c0 kb (8 : Int32) _ T1.heap n0 Z1 B1 Z0 (by decide) (by decide) (Nat.le_of_ble_eq_true rfl) SA1 SH1 SL1) hZ (oW hw 92 rfl) (oW hw 34 rfl) (by decide) (by decide)) (by decide) (g := (mkF m 20 #[.val (.ref s1), .val (.int 0), .val (.int 4), .val (.ref h0.size), .val (.int 0)] [(.int c0), (.int 0), (.ref h0.size)])) rfl (by rw [hml]; rfl) (argsL := [(.ref h0.size), (.int 0), (.int c0)]) (rest := []) (lenOf pd_8 rfl) rfl (by show 2 * 0 + _ ≤ _; exact Nat.le_of_eq rfl) (hb hby dtb4_20) rfl rfl (by decide) (by decide) (fun vq0 Tq0 Lq0 Xq0 hQq0 => ?_)
  obtain ⟨rfl, Mq0, Kq0, Bq0⟩ := hQq0
  have Nq0 := Fr.app N1 Mq0
  have KKq0 : Keep h0 Tq0.heap [] := KK1.trans Kq0 (allS (Or.inr (Nat.le_refl _)) all0)
  have Zq0 : n0 ≤ Tq0.heap.size := Nat.le_trans Z1 Kq0.1
  have Wq0 := W1.keep Kq0 (ninS ne1 nin0)
  have SAq0 := own_staK SA1 Kq0 (own_arvOld B1)
  have SHq0 := own_staK SH1 Kq0 (own_arvOld B1)
  have SLq0 := own_staK SL1 Kq0 (own_arvOld B1)
  show oG p e below _ Tq0 (mkF m 23 #[.val (.ref s1), .val (.int 0), .val (.int 4), .val (.ref h0.size), .val (.int 0)] [])
  refine oS (fun t k => XS.iinc Xq0.here hx rfl (hb hby dtb4_23) rfl (l' := #[.val (.ref s1), .val (.int ((0 : Int32) + (1 : Int32))), .val (.int 4), .val (.ref h0.size), .val (.int 0)]) rfl k) ?_
  show oG p e below _ Tq0 (mkF m 26 #[.val (.ref s1), .val (.int ((0 : Int32) + (1 : Int32))), .val (.int 4), .val (.ref h0.size), .val (.int 0)] [])
  show oG p e below _ Tq0 (mkF m 26 #[.val (.ref s1), .val (.int 1), .val (.int 4), .val (.ref h0.size), .val (.int 0)] [])
  refine oS (fun t k => XS.iinc Xq0.here hx rfl (hb hby dtb4_26) rfl (l' := #[.val (.ref s1), .val (.int 1), .val (.int 4), .val (.ref h0.size), .val (.int ((0 : Int32) + (1 : Int32)))]) rfl k) ?_
  show oG p e below _ Tq0 (mkF m 29 #[.val (.ref s1), .val (.int 1), .val (.int 4), .val (.ref h0.size), .val (.int ((0 : Int32) + (1 : Int32)))] [])
  show oG p e below _ Tq0 (mkF m 29 #[.val (.ref s1), .val (.int 1), .val (.int 4), .val (.ref h0.size), .val (.int 1)] [])
  refine oS (fun t k => XS.goto Xq0.here hx rfl (pc0 := 29) (pc' := 8) rfl (hb hby dtb4_29) (by decide) (by decide) k) ?_
  show oG p e below _ Tq0 (mkF m 8 #[.val (.ref s1), .val (.int 1), .val (.int 4), .val (.ref h0.size), .val (.int 1)] [])
  refine oS (fun t k => XS.iload Xq0.here hx rfl (hb hby dtb4_8) rfl  k) ?_
  refine oS (fun t k => XS.iloadN Xq0.here hx rfl (hb hby dtb4_10) rfl  k) ?_
  show oG p e below _ Tq0 (mkF m 11 #[.val (.ref s1), .val (.int 1), .val (.int 4), .val (.ref h0.size), .val (.int 1)] [(.int 4), (.int 1)])
  refine oS (fun t k => XS.icmpNo Xq0.here hx rfl (hb hby dtb4_11) rfl (tlt (by decide : (1 : Int32) < (4 : Int32))).2.1 k) ?_
  show oG p e below _ Tq0 (mkF m 14 #[.val (.ref s1), .val (.int 1), .val (.int 4), .val (.ref h0.size), .val (.int 1)] [])
  refine oS (fun t k => XS.aloadN Xq0.here hx rfl (hb hby dtb4_14) rfl rfl k) ?_
  refine oS (fun t k => XS.iload Xq0.here hx rfl (hb hby dtb4_15) rfl  k) ?_
  refine oS (fun t k => XS.aloadN Xq0.here hx rfl (hb hby dtb4_17) rfl rfl k) ?_
  refine oS (fun t k => XS.iloadN Xq0.here hx rfl (hb hby dtb4_18) rfl  k) ?_
  show oG p e below _ Tq0 (mkF m 19 #[.val (.ref s1), .val (.int 1), .val (.int 4), .val (.ref h0.size), .val (.int 1)] [(.int 1), (.ref s1), (.int 1), (.ref h0.size)])
  obtain ⟨cli1, Ari1, -, Si1, Mi1, Hi1, Gi1⟩ := id Wq0
  have hini1 : ¬ ((1 : Int32) < 0 ∨ cli1.slots.size ≤ ((1 : Int32)).toNatClampNeg) := inb_of Si1 ⟨by decide, by decide⟩
  refine oS (Xq0.caload hx (j := (1 : Int32)) (v := (.int c1)) Ari1.1 (State.isArrayOf_alike hZ.alike Ari1.2.1) Ari1.2.2 hini1 (Has.at Hi1 hini1 rfl) (g := (mkF m 19 #[.val (.ref s1), .val (.int 1), .val (.int 4), .val (.ref h0.size), .val (.int 1)] [(.int 1), (.ref s1), (.int 1), (.ref h0.size)])) rfl rfl (hb hby dtb4_19)) ?_
  show oG p e below _ Tq0 (mkF m 20 #[.val (.ref s1), .val (.int 1), .val (.int 4), .val (.ref h0.size), .val (.int 1)] [(.int c1), (.int 1), (.ref h0.size)])
  refine own_callS Xq0 hx hZ (y := (⟨"java/lang/StringUTF16", "putChar", "([BII)V"⟩ : MethodName)) (W := 0) (kc := 0) (ks := 0) hown (oW hw 90 rfl) (oW hw 91 rfl) (oW hw 34 rfl) (oW hw 92 rfl) (own_back (W := 0) (rm_pu1 l Z a0 hw [] h0.size c1 kb (8 : Int32) _ Tq0.heap n0 Zq0 Bq0 Z0 (by decide) (by decide) (Nat.le_of_ble_eq_true rfl) SAq0 SHq0 SLq0) hZ (oW hw 92 rfl) (oW hw 34 rfl) (by decide) (by decide)) (by decide) (g := (mkF m 20 #[.val (.ref s1), .val (.int 1), .val (.int 4), .val (.ref h0.size), .val (.int 1)] [(.int c1), (.int 1), (.ref h0.size)])) rfl (by rw [hml]; rfl) (argsL := [(.ref h0.size), (.int 1), (.int c1)]) (rest := []) (lenOf pd_8 rfl) rfl (by show 2 * 0 + _ ≤ _; exact Nat.le_of_eq rfl) (hb hby dtb4_20) rfl rfl (by decide) (by decide) (fun vq1 Tq1 Lq1 Xq1 hQq1 => ?_)
  obtain ⟨rfl, Mq1, Kq1, Bq1⟩ := hQq1
  have Nq1 := Fr.app Nq0 Mq1
  have KKq1 : Keep h0 Tq1.heap [] := KKq0.trans Kq1 (allS (Or.inr (Nat.le_refl _)) all0)
  have Zq1 : n0 ≤ Tq1.heap.size := Nat.le_trans Zq0 Kq1.1
  have Wq1 := Wq0.keep Kq1 (ninS ne1 nin0)
  have SAq1 := own_staK SAq0 Kq1 (own_arvOld Bq0)
  have SHq1 := own_staK SHq0 Kq1 (own_arvOld Bq0)
  have SLq1 := own_staK SLq0 Kq1 (own_arvOld Bq0)
  show oG p e below _ Tq1 (mkF m 23 #[.val (.ref s1), .val (.int 1), .val (.int 4), .val (.ref h0.size), .val (.int 1)] [])
  refine oS (fun t k => XS.iinc Xq1.here hx rfl (hb hby dtb4_23) rfl (l' := #[.val (.ref s1), .val (.int ((1 : Int32) + (1 : Int32))), .val (.int 4), .val (.ref h0.size), .val (.int 1)]) rfl k) ?_
  show oG p e below _ Tq1 (mkF m 26 #[.val (.ref s1), .val (.int ((1 : Int32) + (1 : Int32))), .val (.int 4), .val (.ref h0.size), .val (.int 1)] [])
  show oG p e below _ Tq1 (mkF m 26 #[.val (.ref s1), .val (.int 2), .val (.int 4), .val (.ref h0.size), .val (.int 1)] [])
  refine oS (fun t k => XS.iinc Xq1.here hx rfl (hb hby dtb4_26) rfl (l' := #[.val (.ref s1), .val (.int 2), .val (.int 4), .val (.ref h0.size), .val (.int ((1 : Int32) + (1 : Int32)))]) rfl k) ?_
  show oG p e below _ Tq1 (mkF m 29 #[.val (.ref s1), .val (.int 2), .val (.int 4), .val (.ref h0.size), .val (.int ((1 : Int32) + (1 : Int32)))] [])
  show oG p e below _ Tq1 (mkF m 29 #[.val (.ref s1), .val (.int 2), .val (.int 4), .val (.ref h0.size), .val (.int 2)] [])
  refine oS (fun t k => XS.goto Xq1.here hx rfl (pc0 := 29) (pc' := 8) rfl (hb hby dtb4_29) (by decide) (by decide) k) ?_
  show oG p e below _ Tq1 (mkF m 8 #[.val (.ref s1), .val (.int 2), .val (.int 4), .val (.ref h0.size), .val (.int 2)] [])
  refine oS (fun t k => XS.iload Xq1.here hx rfl (hb hby dtb4_8) rfl  k) ?_
  refine oS (fun t k => XS.iloadN Xq1.here hx rfl (hb hby dtb4_10) rfl  k) ?_
  show oG p e below _ Tq1 (mkF m 11 #[.val (.ref s1), .val (.int 2), .val (.int 4), .val (.ref h0.size), .val (.int 2)] [(.int 4), (.int 2)])
  refine oS (fun t k => XS.icmpNo Xq1.here hx rfl (hb hby dtb4_11) rfl (tlt (by decide : (2 : Int32) < (4 : Int32))).2.1 k) ?_
  show oG p e below _ Tq1 (mkF m 14 #[.val (.ref s1), .val (.int 2), .val (.int 4), .val (.ref h0.size), .val (.int 2)] [])
  refine oS (fun t k => XS.aloadN Xq1.here hx rfl (hb hby dtb4_14) rfl rfl k) ?_
  refine oS (fun t k => XS.iload Xq1.here hx rfl (hb hby dtb4_15) rfl  k) ?_
  refine oS (fun t k => XS.aloadN Xq1.here hx rfl (hb hby dtb4_17) rfl rfl k) ?_
  refine oS (fun t k => XS.iloadN Xq1.here hx rfl (hb hby dtb4_18) rfl  k) ?_
  show oG p e below _ Tq1 (mkF m 19 #[.val (.ref s1), .val (.int 2), .val (.int 4), .val (.ref h0.size), .val (.int 2)] [(.int 2), (.ref s1), (.int 2), (.ref h0.size)])
  obtain ⟨cli2, Ari2, -, Si2, Mi2, Hi2, Gi2⟩ := id Wq1
  have hini2 : ¬ ((2 : Int32) < 0 ∨ cli2.slots.size ≤ ((2 : Int32)).toNatClampNeg) := inb_of Si2 ⟨by decide, by decide⟩
  refine oS (Xq1.caload hx (j := (2 : Int32)) (v := (.int c2)) Ari2.1 (State.isArrayOf_alike hZ.alike Ari2.2.1) Ari2.2.2 hini2 (Has.at Hi2 hini2 rfl) (g := (mkF m 19 #[.val (.ref s1), .val (.int 2), .val (.int 4), .val (.ref h0.size), .val (.int 2)] [(.int 2), (.ref s1), (.int 2), (.ref h0.size)])) rfl rfl (hb hby dtb4_19)) ?_
  show oG p e below _ Tq1 (mkF m 20 #[.val (.ref s1), .val (.int 2), .val (.int 4), .val (.ref h0.size), .val (.int 2)] [(.int c2), (.int 2), (.ref h0.size)])
  refine own_callS Xq1 hx hZ (y := (⟨"java/lang/StringUTF16", "putChar", "([BII)V"⟩ : MethodName)) (W := 0) (kc := 0) (ks := 0) hown (oW hw 90 rfl) (oW hw 91 rfl) (oW hw 34 rfl) (oW hw 92 rfl) (own_back (W := 0) (rm_pu2 l Z a0 hw [] h0.size c2 kb (8 : Int32) _ Tq1.heap n0 Zq1 Bq1 Z0 (by decide) (by decide) (Nat.le_of_ble_eq_true rfl) SAq1 SHq1 SLq1) hZ (oW hw 92 rfl) (oW hw 34 rfl) (by decide) (by decide)) (by decide) (g := (mkF m 20 #[.val (.ref s1), .val (.int 2), .val (.int 4), .val (.ref h0.size), .val (.int 2)] [(.int c2), (.int 2), (.ref h0.size)])) rfl (by rw [hml]; rfl) (argsL := [(.ref h0.size), (.int 2), (.int c2)]) (rest := []) (lenOf pd_8 rfl) rfl (by show 2 * 0 + _ ≤ _; exact Nat.le_of_eq rfl) (hb hby dtb4_20) rfl rfl (by decide) (by decide) (fun vq2 Tq2 Lq2 Xq2 hQq2 => ?_)
  obtain ⟨rfl, Mq2, Kq2, Bq2⟩ := hQq2
  have Nq2 := Fr.app Nq1 Mq2
  have KKq2 : Keep h0 Tq2.heap [] := KKq1.trans Kq2 (allS (Or.inr (Nat.le_refl _)) all0)
  have Zq2 : n0 ≤ Tq2.heap.size := Nat.le_trans Zq1 Kq2.1
  have Wq2 := Wq1.keep Kq2 (ninS ne1 nin0)
  have SAq2 := own_staK SAq1 Kq2 (own_arvOld Bq1)
  have SHq2 := own_staK SHq1 Kq2 (own_arvOld Bq1)
  have SLq2 := own_staK SLq1 Kq2 (own_arvOld Bq1)
  show oG p e below _ Tq2 (mkF m 23 #[.val (.ref s1), .val (.int 2), .val (.int 4), .val (.ref h0.size), .val (.int 2)] [])
  refine oS (fun t k => XS.iinc Xq2.here hx rfl (hb hby dtb4_23) rfl (l' := #[.val (.ref s1), .val (.int ((2 : Int32) + (1 : Int32))), .val (.int 4), .val (.ref h0.size), .val (.int 2)]) rfl k) ?_
  show oG p e below _ Tq2 (mkF m 26 #[.val (.ref s1), .val (.int ((2 : Int32) + (1 : Int32))), .val (.int 4), .val (.ref h0.size), .val (.int 2)] [])
  show oG p e below _ Tq2 (mkF m 26 #[.val (.ref s1), .val (.int 3), .val (.int 4), .val (.ref h0.size), .val (.int 2)] [])
  refine oS (fun t k => XS.iinc Xq2.here hx rfl (hb hby dtb4_26) rfl (l' := #[.val (.ref s1), .val (.int 3), .val (.int 4), .val (.ref h0.size), .val (.int ((2 : Int32) + (1 : Int32)))]) rfl k) ?_
  show oG p e below _ Tq2 (mkF m 29 #[.val (.ref s1), .val (.int 3), .val (.int 4), .val (.ref h0.size), .val (.int ((2 : Int32) + (1 : Int32)))] [])
  show oG p e below _ Tq2 (mkF m 29 #[.val (.ref s1), .val (.int 3), .val (.int 4), .val (.ref h0.size), .val (.int 3)] [])
  refine oS (fun t k => XS.goto Xq2.here hx rfl (pc0 := 29) (pc' := 8) rfl (hb hby dtb4_29) (by decide) (by decide) k) ?_
  show oG p e below _ Tq2 (mkF m 8 #[.val (.ref s1), .val (.int 3), .val (.int 4), .val (.ref h0.size), .val (.int 3)] [])
  refine oS (fun t k => XS.iload Xq2.here hx rfl (hb hby dtb4_8) rfl  k) ?_
  refine oS (fun t k => XS.iloadN Xq2.here hx rfl (hb hby dtb4_10) rfl  k) ?_
  show oG p e below _ Tq2 (mkF m 11 #[.val (.ref s1), .val (.int 3), .val (.int 4), .val (.ref h0.size), .val (.int 3)] [(.int 4), (.int 3)])
  refine oS (fun t k => XS.icmpNo Xq2.here hx rfl (hb hby dtb4_11) rfl (tlt (by decide : (3 : Int32) < (4 : Int32))).2.1 k) ?_
  show oG p e below _ Tq2 (mkF m 14 #[.val (.ref s1), .val (.int 3), .val (.int 4), .val (.ref h0.size), .val (.int 3)] [])
  refine oS (fun t k => XS.aloadN Xq2.here hx rfl (hb hby dtb4_14) rfl rfl k) ?_
  refine oS (fun t k => XS.iload Xq2.here hx rfl (hb hby dtb4_15) rfl  k) ?_
  refine oS (fun t k => XS.aloadN Xq2.here hx rfl (hb hby dtb4_17) rfl rfl k) ?_
  refine oS (fun t k => XS.iloadN Xq2.here hx rfl (hb hby dtb4_18) rfl  k) ?_
  show oG p e below _ Tq2 (mkF m 19 #[.val (.ref s1), .val (.int 3), .val (.int 4), .val (.ref h0.size), .val (.int 3)] [(.int 3), (.ref s1), (.int 3), (.ref h0.size)])
  obtain ⟨cli3, Ari3, -, Si3, Mi3, Hi3, Gi3⟩ := id Wq2
  have hini3 : ¬ ((3 : Int32) < 0 ∨ cli3.slots.size ≤ ((3 : Int32)).toNatClampNeg) := inb_of Si3 ⟨by decide, by decide⟩
  refine oS (Xq2.caload hx (j := (3 : Int32)) (v := (.int c3)) Ari3.1 (State.isArrayOf_alike hZ.alike Ari3.2.1) Ari3.2.2 hini3 (Has.at Hi3 hini3 rfl) (g := (mkF m 19 #[.val (.ref s1), .val (.int 3), .val (.int 4), .val (.ref h0.size), .val (.int 3)] [(.int 3), (.ref s1), (.int 3), (.ref h0.size)])) rfl rfl (hb hby dtb4_19)) ?_
  show oG p e below _ Tq2 (mkF m 20 #[.val (.ref s1), .val (.int 3), .val (.int 4), .val (.ref h0.size), .val (.int 3)] [(.int c3), (.int 3), (.ref h0.size)])
  refine own_callS Xq2 hx hZ (y := (⟨"java/lang/StringUTF16", "putChar", "([BII)V"⟩ : MethodName)) (W := 0) (kc := 0) (ks := 0) hown (oW hw 90 rfl) (oW hw 91 rfl) (oW hw 34 rfl) (oW hw 92 rfl) (own_back (W := 0) (rm_pu3 l Z a0 hw [] h0.size c3 kb (8 : Int32) _ Tq2.heap n0 Zq2 Bq2 Z0 (by decide) (by decide) (Nat.le_of_ble_eq_true rfl) SAq2 SHq2 SLq2) hZ (oW hw 92 rfl) (oW hw 34 rfl) (by decide) (by decide)) (by decide) (g := (mkF m 20 #[.val (.ref s1), .val (.int 3), .val (.int 4), .val (.ref h0.size), .val (.int 3)] [(.int c3), (.int 3), (.ref h0.size)])) rfl (by rw [hml]; rfl) (argsL := [(.ref h0.size), (.int 3), (.int c3)]) (rest := []) (lenOf pd_8 rfl) rfl (by show 2 * 0 + _ ≤ _; exact Nat.le_of_eq rfl) (hb hby dtb4_20) rfl rfl (by decide) (by decide) (fun vq3 Tq3 Lq3 Xq3 hQq3 => ?_)
  obtain ⟨rfl, Mq3, Kq3, Bq3⟩ := hQq3
  have Nq3 := Fr.app Nq2 Mq3
  have KKq3 : Keep h0 Tq3.heap [] := KKq2.trans Kq3 (allS (Or.inr (Nat.le_refl _)) all0)
  have Zq3 : n0 ≤ Tq3.heap.size := Nat.le_trans Zq2 Kq3.1
  have Wq3 := Wq2.keep Kq3 (ninS ne1 nin0)
  have SAq3 := own_staK SAq2 Kq3 (own_arvOld Bq2)
  have SHq3 := own_staK SHq2 Kq3 (own_arvOld Bq2)
  have SLq3 := own_staK SLq2 Kq3 (own_arvOld Bq2)
  show oG p e below _ Tq3 (mkF m 23 #[.val (.ref s1), .val (.int 3), .val (.int 4), .val (.ref h0.size), .val (.int 3)] [])
  refine oS (fun t k => XS.iinc Xq3.here hx rfl (hb hby dtb4_23) rfl (l' := #[.val (.ref s1), .val (.int ((3 : Int32) + (1 : Int32))), .val (.int 4), .val (.ref h0.size), .val (.int 3)]) rfl k) ?_
  show oG p e below _ Tq3 (mkF m 26 #[.val (.ref s1), .val (.int ((3 : Int32) + (1 : Int32))), .val (.int 4), .val (.ref h0.size), .val (.int 3)] [])
  show oG p e below _ Tq3 (mkF m 26 #[.val (.ref s1), .val (.int 4), .val (.int 4), .val (.ref h0.size), .val (.int 3)] [])
  refine oS (fun t k => XS.iinc Xq3.here hx rfl (hb hby dtb4_26) rfl (l' := #[.val (.ref s1), .val (.int 4), .val (.int 4), .val (.ref h0.size), .val (.int ((3 : Int32) + (1 : Int32)))]) rfl k) ?_
  show oG p e below _ Tq3 (mkF m 29 #[.val (.ref s1), .val (.int 4), .val (.int 4), .val (.ref h0.size), .val (.int ((3 : Int32) + (1 : Int32)))] [])
  show oG p e below _ Tq3 (mkF m 29 #[.val (.ref s1), .val (.int 4), .val (.int 4), .val (.ref h0.size), .val (.int 4)] [])
  refine oS (fun t k => XS.goto Xq3.here hx rfl (pc0 := 29) (pc' := 8) rfl (hb hby dtb4_29) (by decide) (by decide) k) ?_
  show oG p e below _ Tq3 (mkF m 8 #[.val (.ref s1), .val (.int 4), .val (.int 4), .val (.ref h0.size), .val (.int 4)] [])
  refine oS (fun t k => XS.iload Xq3.here hx rfl (hb hby dtb4_8) rfl  k) ?_
  refine oS (fun t k => XS.iloadN Xq3.here hx rfl (hb hby dtb4_10) rfl  k) ?_
  show oG p e below _ Tq3 (mkF m 11 #[.val (.ref s1), .val (.int 4), .val (.int 4), .val (.ref h0.size), .val (.int 4)] [(.int 4), (.int 4)])
  refine oS (fun t k => XS.icmpYes Xq3.here hx rfl (pc0 := 11) (pc' := 32) rfl (hb hby dtb4_11) rfl (flt (by decide : ¬ (4 : Int32) < (4 : Int32))).2.1 (by decide) (by decide) k) ?_
  show oG p e below _ Tq3 (mkF m 32 #[.val (.ref s1), .val (.int 4), .val (.int 4), .val (.ref h0.size), .val (.int 4)] [])
  refine oS (fun t k => XS.aloadN Xq3.here hx rfl (hb hby dtb4_32) rfl rfl k) ?_
  show oG p e below _ Tq3 (mkF m 33 #[.val (.ref s1), .val (.int 4), .val (.int 4), .val (.ref h0.size), .val (.int 4)] [(.ref h0.size)])
  refine own_retA Xq3 hx hlk hret rfl rfl (hb hby dtb4_33) ?_ (by decide) (by decide)
  exact ⟨kb, rfl, Nq3, KKq3, Bq3⟩
theorem dci4_0 : decode jdk_52_method_21_code 0 = .ok (.iconst 0, 1) := by decide +kernel
theorem dci4_1 : decode jdk_52_method_21_code 1 = .ok (.istore 5, 2) := by decide +kernel
theorem dci4_3 : decode jdk_52_method_21_code 3 = .ok (.iload 5, 2) := by decide +kernel
theorem dci4_5 : decode jdk_52_method_21_code 5 = .ok (.iload 4, 2) := by decide +kernel
theorem dci4_7 : decode jdk_52_method_21_code 7 = .ok (.if_icmp .ge 37, 3) := by decide +kernel
theorem dci4_10 : decode jdk_52_method_21_code 10 = .ok (.aload_n 0, 1) := by decide +kernel
theorem dci4_11 : decode jdk_52_method_21_code 11 = .ok (.iload_n 1, 1) := by decide +kernel
theorem dci4_12 : decode jdk_52_method_21_code 12 = .ok (.caload, 1) := by decide +kernel
theorem dci4_13 : decode jdk_52_method_21_code 13 = .ok (.istore 6, 2) := by decide +kernel
theorem dci4_15 : decode jdk_52_method_21_code 15 = .ok (.iload 6, 2) := by decide +kernel
theorem dci4_17 : decode jdk_52_method_21_code 17 = .ok (.sipush 255, 3) := by decide +kernel
theorem dci4_20 : decode jdk_52_method_21_code 20 = .ok (.if_icmp .le 6, 3) := by decide +kernel
theorem dci4_23 : decode jdk_52_method_21_code 23 = .ok (.iload 5, 2) := by decide +kernel
theorem dci4_25 : decode jdk_52_method_21_code 25 = .ok (.ireturn, 1) := by decide +kernel
theorem dci4_26 : decode jdk_52_method_21_code 26 = .ok (.aload_n 2, 1) := by decide +kernel
theorem dci4_27 : decode jdk_52_method_21_code 27 = .ok (.iload_n 3, 1) := by decide +kernel
theorem dci4_28 : decode jdk_52_method_21_code 28 = .ok (.iload 6, 2) := by decide +kernel
theorem dci4_30 : decode jdk_52_method_21_code 30 = .ok (.i2b, 1) := by decide +kernel
theorem dci4_31 : decode jdk_52_method_21_code 31 = .ok (.bastore, 1) := by decide +kernel
theorem dci4_32 : decode jdk_52_method_21_code 32 = .ok (.iinc 1 1, 3) := by decide +kernel
theorem dci4_35 : decode jdk_52_method_21_code 35 = .ok (.iinc 3 1, 3) := by decide +kernel
theorem dci4_38 : decode jdk_52_method_21_code 38 = .ok (.iinc 5 1, 3) := by decide +kernel
theorem dci4_41 : decode jdk_52_method_21_code 41 = .ok (.goto (-38), 3) := by decide +kernel
theorem dci4_44 : decode jdk_52_method_21_code 44 = .ok (.iload 4, 2) := by decide +kernel
theorem dci4_46 : decode jdk_52_method_21_code 46 = .ok (.ireturn, 1) := by decide +kernel
theorem efci4 (m : MethodId) (x0 : Addr) (x1 : Int32) (x2 : Addr) (x3 : Int32) (x4 : Int32) : entryFrame m #[(.ref x0), (.int x1), (.ref x2), (.int x3), (.int x4)] 7 = mkF m 0 #[.val (.ref x0), .val (.int x1), .val (.ref x2), .val (.int x3), .val (.int x4), .unset, .unset] [] := by first | (simp [entryFrame, mkF, argsToLocals, Value.category]; done) | rfl
set_option maxRecDepth 65536 in
set_option maxHeartbeats 40000000 in
theorem rm_ci4 (l : Launch) (Z : State) (a0 : Array Value) (hw : ∀ d ∈ tables_1, d.before a0 Z = true) (ws : List Jvm.Cond) (s1 : Addr) (d1 : Addr) (ks : ClassId) (kd : ClassId) (ds : Value) (c0 : Int32) (c1 : Int32) (c2 : Int32) (c3 : Int32) (h0 : Heap) (n0 : Nat) (Z0 : n0 ≤ h0.size) (V1 : Arv Z h0 s1 ks .char (4 : Int32) (([c0, c1, c2, c3] : List Int32).map Value.int) ds) (D1 : Arv Z h0 d1 kd .byte (4 : Int32) [(.int 0), (.int 0), (.int 0), (.int 0)] (.int 0)) (hne : s1 ≠ d1) (gd : n0 ≤ d1) (hbig : 255 < c0 ∨ 255 < c1 ∨ 255 < c2 ∨ 255 < c3) :
    own_Met l Z ws (⟨"java/lang/StringUTF16", "compress", "([CI[BII)I"⟩ : MethodName) jdk_52_method_21_code 7 (some .int) ({ frames := 0, cells := 0, slots := 0, locals := 0 } : Room) #[(.ref s1), (.int 0), (.ref d1), (.int 0), (.int 4)] h0 (fun v h L => ∃ k : Int32, v = some (.int k) ∧ Fr n0 L ∧ Keep h0 h [d1] ∧ ((k = 0 ∧ 255 < c0) ∨ (k = 1 ∧ 255 < c1) ∨ (k = 2 ∧ 255 < c2) ∨ (k = 3 ∧ 255 < c3))) := by
  refine own_body (plainFor_of_name pn_0) ?_
  intro p e s m below meth c s₁ hx hby hml hret hlk hown hnm hZ X0 e0
  have hml : c.maxLocals = 7 := hml
  have hown : s.vm.findClass "java/lang/StringUTF16" = some m.cls := hown
  have N0 := Fr.nil n0
  refine own_cast (efci4 m s1 (0 : Int32) d1 (0 : Int32) (4 : Int32)) ?_
  show oG p e below _ s₁ (mkF m 0 #[.val (.ref s1), .val (.int 0), .val (.ref d1), .val (.int 0), .val (.int 4), .unset, .unset] [])
  refine oS (fun t k => XS.iconst X0.here hx rfl (hb hby dci4_0) k) ?_
  refine oS (fun t k => XS.istore X0.here hx rfl (hb hby dci4_1) rfl (l' := #[.val (.ref s1), .val (.int 0), .val (.ref d1), .val (.int 0), .val (.int 4), .val (.int 0), .unset]) rfl k) ?_
  show oG p e below _ s₁ (mkF m 3 #[.val (.ref s1), .val (.int 0), .val (.ref d1), .val (.int 0), .val (.int 4), .val (.int 0), .unset] [])
  refine oS (fun t k => XS.iload X0.here hx rfl (hb hby dci4_3) rfl  k) ?_
  refine oS (fun t k => XS.iload X0.here hx rfl (hb hby dci4_5) rfl  k) ?_
  show oG p e below _ s₁ (mkF m 7 #[.val (.ref s1), .val (.int 0), .val (.ref d1), .val (.int 0), .val (.int 4), .val (.int 0), .unset] [(.int 4), (.int 0)])
  refine oS (fun t k => XS.icmpNo X0.here hx rfl (hb hby dci4_7) rfl (tlt (by decide : (0 : Int32) < (4 : Int32))).2.1 k) ?_
  show oG p e below _ s₁ (mkF m 10 #[.val (.ref s1), .val (.int 0), .val (.ref d1), .val (.int 0), .val (.int 4), .val (.int 0), .unset] [])
  refine oS (fun t k => XS.aloadN X0.here hx rfl (hb hby dci4_10) rfl rfl k) ?_
  refine oS (fun t k => XS.iloadN X0.here hx rfl (hb hby dci4_11) rfl  k) ?_
  show oG p e below _ s₁ (mkF m 12 #[.val (.ref s1), .val (.int 0), .val (.ref d1), .val (.int 0), .val (.int 4), .val (.int 0), .unset] [(.int 0), (.ref s1)])
  obtain ⟨cli0, Ari0, -, Si0, Mi0, Hi0, Gi0⟩ := id V1
  have hini0 : ¬ ((0 : Int32) < 0 ∨ cli0.slots.size ≤ ((0 : Int32)).toNatClampNeg) := inb_of Si0 ⟨by decide, by decide⟩
  refine oS (X0.caload hx (j := (0 : Int32)) (v := (.int c0)) (by rw [e0]; exact Ari0.1) (State.isArrayOf_alike hZ.alike Ari0.2.1) Ari0.2.2 hini0 (Has.at Hi0 hini0 rfl) (g := (mkF m 12 #[.val (.ref s1), .val (.int 0), .val (.ref d1), .val (.int 0), .val (.int 4), .val (.int 0), .unset] [(.int 0), (.ref s1)])) rfl rfl (hb hby dci4_12)) ?_
  show oG p e below _ s₁ (mkF m 13 #[.val (.ref s1), .val (.int 0), .val (.ref d1), .val (.int 0), .val (.int 4), .val (.int 0), .unset] [(.int c0)])
  refine oS (fun t k => XS.istore X0.here hx rfl (hb hby dci4_13) rfl (l' := #[.val (.ref s1), .val (.int 0), .val (.ref d1), .val (.int 0), .val (.int 4), .val (.int 0), .val (.int c0)]) rfl k) ?_
  show oG p e below _ s₁ (mkF m 15 #[.val (.ref s1), .val (.int 0), .val (.ref d1), .val (.int 0), .val (.int 4), .val (.int 0), .val (.int c0)] [])
  refine oS (fun t k => XS.iload X0.here hx rfl (hb hby dci4_15) rfl  k) ?_
  refine oS (fun t k => XS.sipush X0.here hx rfl (hb hby dci4_17) k) ?_
  show oG p e below _ s₁ (mkF m 20 #[.val (.ref s1), .val (.int 0), .val (.ref d1), .val (.int 0), .val (.int 4), .val (.int 0), .val (.int c0)] [(.int 255), (.int c0)])
  by_cases u0 : (255 : Int32) < c0
  · refine oS (fun t k => XS.icmpNo X0.here hx rfl (hb hby dci4_20) rfl (tlt u0).2.2.2 k) ?_
    show oG p e below _ s₁ (mkF m 23 #[.val (.ref s1), .val (.int 0), .val (.ref d1), .val (.int 0), .val (.int 4), .val (.int 0), .val (.int c0)] [])
    refine oS (fun t k => XS.iload X0.here hx rfl (hb hby dci4_23) rfl  k) ?_
    show oG p e below _ s₁ (mkF m 25 #[.val (.ref s1), .val (.int 0), .val (.ref d1), .val (.int 0), .val (.int 4), .val (.int 0), .val (.int c0)] [(.int 0)])
    refine own_retI X0 hx hlk hret (hb hby dci4_25) ?_ (by decide) (by decide)
    rw [e0]
    exact ⟨_, rfl, N0, (Keep.refl h0 [d1]), Or.inl ⟨rfl, u0⟩⟩
  · refine oS (fun t k => XS.icmpYes X0.here hx rfl (pc0 := 20) (pc' := 26) rfl (hb hby dci4_20) rfl (flt u0).2.2.2 (by decide) (by decide) k) ?_
    show oG p e below _ s₁ (mkF m 26 #[.val (.ref s1), .val (.int 0), .val (.ref d1), .val (.int 0), .val (.int 4), .val (.int 0), .val (.int c0)] [])
    refine oS (fun t k => XS.aloadN X0.here hx rfl (hb hby dci4_26) rfl rfl k) ?_
    refine oS (fun t k => XS.iloadN X0.here hx rfl (hb hby dci4_27) rfl  k) ?_
    refine oS (fun t k => XS.iload X0.here hx rfl (hb hby dci4_28) rfl  k) ?_
    refine oS (fun t k => XS.i2b X0.here hx rfl (hb hby dci4_30) rfl k) ?_
    show oG p e below _ s₁ (mkF m 31 #[.val (.ref s1), .val (.int 0), .val (.ref d1), .val (.int 0), .val (.int 4), .val (.int 0), .val (.int c0)] [(.int (c0.toInt8.toInt32)), (.int 0), (.ref d1)])
    obtain ⟨cls0, Ars0, qs0, Ss0, Ms0, Hs0, Gs0⟩ := D1
    have hins0 : ¬ ((0 : Int32) < 0 ∨ cls0.slots.size ≤ ((0 : Int32)).toNatClampNeg) := inb_of Ss0 ⟨by decide, by decide⟩
    obtain ⟨Ts0, hs0, Xs0, es0, Ws0, sts0⟩ := stB X0 hx hZ e0 Ars0 (j := (0 : Int32)) hins0 (g := (mkF m 31 #[.val (.ref s1), .val (.int 0), .val (.ref d1), .val (.int 0), .val (.int 4), .val (.int 0), .val (.int c0)] [(.int (c0.toInt8.toInt32)), (.int 0), (.ref d1)])) rfl rfl (hb hby dci4_31)
    refine oS sts0 ?_
    have Vs0 := Arv.set Ars0 qs0 Ss0 Ms0 Hs0 Gs0 (fits_nar_byte _) Ws0 0 rfl (Nat.le_of_ble_eq_true rfl)
    have Ns0 := Fr.snoc Xs0 N0 gd
    show oG p e below _ Ts0 (mkF m 32 #[.val (.ref s1), .val (.int 0), .val (.ref d1), .val (.int 0), .val (.int 4), .val (.int 0), .val (.int c0)] [])
    have KS0 := (Keep.refl h0 [d1]).wr Ws0 (Or.inl (List.mem_of_getElem? (i := 0) rfl))
    have VS0 := V1.other Ws0 hne
    refine oS (fun t k => XS.iinc Xs0.here hx rfl (hb hby dci4_32) rfl (l' := #[.val (.ref s1), .val (.int ((0 : Int32) + (1 : Int32))), .val (.ref d1), .val (.int 0), .val (.int 4), .val (.int 0), .val (.int c0)]) rfl k) ?_
    show oG p e below _ Ts0 (mkF m 35 #[.val (.ref s1), .val (.int ((0 : Int32) + (1 : Int32))), .val (.ref d1), .val (.int 0), .val (.int 4), .val (.int 0), .val (.int c0)] [])
    show oG p e below _ Ts0 (mkF m 35 #[.val (.ref s1), .val (.int 1), .val (.ref d1), .val (.int 0), .val (.int 4), .val (.int 0), .val (.int c0)] [])
    refine oS (fun t k => XS.iinc Xs0.here hx rfl (hb hby dci4_35) rfl (l' := #[.val (.ref s1), .val (.int 1), .val (.ref d1), .val (.int ((0 : Int32) + (1 : Int32))), .val (.int 4), .val (.int 0), .val (.int c0)]) rfl k) ?_
    show oG p e below _ Ts0 (mkF m 38 #[.val (.ref s1), .val (.int 1), .val (.ref d1), .val (.int ((0 : Int32) + (1 : Int32))), .val (.int 4), .val (.int 0), .val (.int c0)] [])
    show oG p e below _ Ts0 (mkF m 38 #[.val (.ref s1), .val (.int 1), .val (.ref d1), .val (.int 1), .val (.int 4), .val (.int 0), .val (.int c0)] [])
    refine oS (fun t k => XS.iinc Xs0.here hx rfl (hb hby dci4_38) rfl (l' := #[.val (.ref s1), .val (.int 1), .val (.ref d1), .val (.int 1), .val (.int 4), .val (.int ((0 : Int32) + (1 : Int32))), .val (.int c0)]) rfl k) ?_
    show oG p e below _ Ts0 (mkF m 41 #[.val (.ref s1), .val (.int 1), .val (.ref d1), .val (.int 1), .val (.int 4), .val (.int ((0 : Int32) + (1 : Int32))), .val (.int c0)] [])
    show oG p e below _ Ts0 (mkF m 41 #[.val (.ref s1), .val (.int 1), .val (.ref d1), .val (.int 1), .val (.int 4), .val (.int 1), .val (.int c0)] [])
    refine oS (fun t k => XS.goto Xs0.here hx rfl (pc0 := 41) (pc' := 3) rfl (hb hby dci4_41) (by decide) (by decide) k) ?_
    show oG p e below _ Ts0 (mkF m 3 #[.val (.ref s1), .val (.int 1), .val (.ref d1), .val (.int 1), .val (.int 4), .val (.int 1), .val (.int c0)] [])
    refine oS (fun t k => XS.iload Xs0.here hx rfl (hb hby dci4_3) rfl  k) ?_
    refine oS (fun t k => XS.iload Xs0.here hx rfl (hb hby dci4_5) rfl  k) ?_
    show oG p e below _ Ts0 (mkF m 7 #[.val (.ref s1), .val (.int 1), .val (.ref d1), .val (.int 1), .val (.int 4), .val (.int 1), .val (.int c0)] [(.int 4), (.int 1)])
    refine oS (fun t k => XS.icmpNo Xs0.here hx rfl (hb hby dci4_7) rfl (tlt (by decide : (1 : Int32) < (4 : Int32))).2.1 k) ?_
    show oG p e below _ Ts0 (mkF m 10 #[.val (.ref s1), .val (.int 1), .val (.ref d1), .val (.int 1), .val (.int 4), .val (.int 1), .val (.int c0)] [])
    refine oS (fun t k => XS.aloadN Xs0.here hx rfl (hb hby dci4_10) rfl rfl k) ?_
    refine oS (fun t k => XS.iloadN Xs0.here hx rfl (hb hby dci4_11) rfl  k) ?_
    show oG p e below _ Ts0 (mkF m 12 #[.val (.ref s1), .val (.int 1), .val (.ref d1), .val (.int 1), .val (.int 4), .val (.int 1), .val (.int c0)] [(.int 1), (.ref s1)])
    obtain ⟨cli1, Ari1, -, Si1, Mi1, Hi1, Gi1⟩ := id VS0
    have hini1 : ¬ ((1 : Int32) < 0 ∨ cli1.slots.size ≤ ((1 : Int32)).toNatClampNeg) := inb_of Si1 ⟨by decide, by decide⟩
    refine oS (Xs0.caload hx (j := (1 : Int32)) (v := (.int c1)) (by rw [es0]; exact Ari1.1) (State.isArrayOf_alike hZ.alike Ari1.2.1) Ari1.2.2 hini1 (Has.at Hi1 hini1 rfl) (g := (mkF m 12 #[.val (.ref s1), .val (.int 1), .val (.ref d1), .val (.int 1), .val (.int 4), .val (.int 1), .val (.int c0)] [(.int 1), (.ref s1)])) rfl rfl (hb hby dci4_12)) ?_
    show oG p e below _ Ts0 (mkF m 13 #[.val (.ref s1), .val (.int 1), .val (.ref d1), .val (.int 1), .val (.int 4), .val (.int 1), .val (.int c0)] [(.int c1)])
    refine oS (fun t k => XS.istore Xs0.here hx rfl (hb hby dci4_13) rfl (l' := #[.val (.ref s1), .val (.int 1), .val (.ref d1), .val (.int 1), .val (.int 4), .val (.int 1), .val (.int c1)]) rfl k) ?_
    show oG p e below _ Ts0 (mkF m 15 #[.val (.ref s1), .val (.int 1), .val (.ref d1), .val (.int 1), .val (.int 4), .val (.int 1), .val (.int c1)] [])
    refine oS (fun t k => XS.iload Xs0.here hx rfl (hb hby dci4_15) rfl  k) ?_
    refine oS (fun t k => XS.sipush Xs0.here hx rfl (hb hby dci4_17) k) ?_
    show oG p e below _ Ts0 (mkF m 20 #[.val (.ref s1), .val (.int 1), .val (.ref d1), .val (.int 1), .val (.int 4), .val (.int 1), .val (.int c1)] [(.int 255), (.int c1)])
    by_cases u1 : (255 : Int32) < c1
    · refine oS (fun t k => XS.icmpNo Xs0.here hx rfl (hb hby dci4_20) rfl (tlt u1).2.2.2 k) ?_
      show oG p e below _ Ts0 (mkF m 23 #[.val (.ref s1), .val (.int 1), .val (.ref d1), .val (.int 1), .val (.int 4), .val (.int 1), .val (.int c1)] [])
      refine oS (fun t k => XS.iload Xs0.here hx rfl (hb hby dci4_23) rfl  k) ?_
      show oG p e below _ Ts0 (mkF m 25 #[.val (.ref s1), .val (.int 1), .val (.ref d1), .val (.int 1), .val (.int 4), .val (.int 1), .val (.int c1)] [(.int 1)])
      refine own_retI Xs0 hx hlk hret (hb hby dci4_25) ?_ (by decide) (by decide)
      rw [es0]
      exact ⟨_, rfl, Ns0, KS0, Or.inr (Or.inl ⟨rfl, u1⟩)⟩
    · refine oS (fun t k => XS.icmpYes Xs0.here hx rfl (pc0 := 20) (pc' := 26) rfl (hb hby dci4_20) rfl (flt u1).2.2.2 (by decide) (by decide) k) ?_
      show oG p e below _ Ts0 (mkF m 26 #[.val (.ref s1), .val (.int 1), .val (.ref d1), .val (.int 1), .val (.int 4), .val (.int 1), .val (.int c1)] [])
      refine oS (fun t k => XS.aloadN Xs0.here hx rfl (hb hby dci4_26) rfl rfl k) ?_
      refine oS (fun t k => XS.iloadN Xs0.here hx rfl (hb hby dci4_27) rfl  k) ?_
      refine oS (fun t k => XS.iload Xs0.here hx rfl (hb hby dci4_28) rfl  k) ?_
      refine oS (fun t k => XS.i2b Xs0.here hx rfl (hb hby dci4_30) rfl k) ?_
      show oG p e below _ Ts0 (mkF m 31 #[.val (.ref s1), .val (.int 1), .val (.ref d1), .val (.int 1), .val (.int 4), .val (.int 1), .val (.int c1)] [(.int (c1.toInt8.toInt32)), (.int 1), (.ref d1)])
      obtain ⟨cls1, Ars1, qs1, Ss1, Ms1, Hs1, Gs1⟩ := Vs0
      have hins1 : ¬ ((1 : Int32) < 0 ∨ cls1.slots.size ≤ ((1 : Int32)).toNatClampNeg) := inb_of Ss1 ⟨by decide, by decide⟩
      obtain ⟨Ts1, hs1, Xs1, es1, Ws1, sts1⟩ := stB Xs0 hx hZ es0 Ars1 (j := (1 : Int32)) hins1 (g := (mkF m 31 #[.val (.ref s1), .val (.int 1), .val (.ref d1), .val (.int 1), .val (.int 4), .val (.int 1), .val (.int c1)] [(.int (c1.toInt8.toInt32)), (.int 1), (.ref d1)])) rfl rfl (hb hby dci4_31)
      refine oS sts1 ?_
      have Vs1 := Arv.set Ars1 qs1 Ss1 Ms1 Hs1 Gs1 (fits_nar_byte _) Ws1 1 rfl (Nat.le_of_ble_eq_true rfl)
      have Ns1 := Fr.snoc Xs1 Ns0 gd
      show oG p e below _ Ts1 (mkF m 32 #[.val (.ref s1), .val (.int 1), .val (.ref d1), .val (.int 1), .val (.int 4), .val (.int 1), .val (.int c1)] [])
      have KS1 := KS0.wr Ws1 (Or.inl (List.mem_of_getElem? (i := 0) rfl))
      have VS1 := VS0.other Ws1 hne
      refine oS (fun t k => XS.iinc Xs1.here hx rfl (hb hby dci4_32) rfl (l' := #[.val (.ref s1), .val (.int ((1 : Int32) + (1 : Int32))), .val (.ref d1), .val (.int 1), .val (.int 4), .val (.int 1), .val (.int c1)]) rfl k) ?_
      show oG p e below _ Ts1 (mkF m 35 #[.val (.ref s1), .val (.int ((1 : Int32) + (1 : Int32))), .val (.ref d1), .val (.int 1), .val (.int 4), .val (.int 1), .val (.int c1)] [])
      show oG p e below _ Ts1 (mkF m 35 #[.val (.ref s1), .val (.int 2), .val (.ref d1), .val (.int 1), .val (.int 4), .val (.int 1), .val (.int c1)] [])
      refine oS (fun t k => XS.iinc Xs1.here hx rfl (hb hby dci4_35) rfl (l' := #[.val (.ref s1), .val (.int 2), .val (.ref d1), .val (.int ((1 : Int32) + (1 : Int32))), .val (.int 4), .val (.int 1), .val (.int c1)]) rfl k) ?_
      show oG p e below _ Ts1 (mkF m 38 #[.val (.ref s1), .val (.int 2), .val (.ref d1), .val (.int ((1 : Int32) + (1 : Int32))), .val (.int 4), .val (.int 1), .val (.int c1)] [])
      show oG p e below _ Ts1 (mkF m 38 #[.val (.ref s1), .val (.int 2), .val (.ref d1), .val (.int 2), .val (.int 4), .val (.int 1), .val (.int c1)] [])
      refine oS (fun t k => XS.iinc Xs1.here hx rfl (hb hby dci4_38) rfl (l' := #[.val (.ref s1), .val (.int 2), .val (.ref d1), .val (.int 2), .val (.int 4), .val (.int ((1 : Int32) + (1 : Int32))), .val (.int c1)]) rfl k) ?_
      show oG p e below _ Ts1 (mkF m 41 #[.val (.ref s1), .val (.int 2), .val (.ref d1), .val (.int 2), .val (.int 4), .val (.int ((1 : Int32) + (1 : Int32))), .val (.int c1)] [])
      show oG p e below _ Ts1 (mkF m 41 #[.val (.ref s1), .val (.int 2), .val (.ref d1), .val (.int 2), .val (.int 4), .val (.int 2), .val (.int c1)] [])
      refine oS (fun t k => XS.goto Xs1.here hx rfl (pc0 := 41) (pc' := 3) rfl (hb hby dci4_41) (by decide) (by decide) k) ?_
      show oG p e below _ Ts1 (mkF m 3 #[.val (.ref s1), .val (.int 2), .val (.ref d1), .val (.int 2), .val (.int 4), .val (.int 2), .val (.int c1)] [])
      refine oS (fun t k => XS.iload Xs1.here hx rfl (hb hby dci4_3) rfl  k) ?_
      refine oS (fun t k => XS.iload Xs1.here hx rfl (hb hby dci4_5) rfl  k) ?_
      show oG p e below _ Ts1 (mkF m 7 #[.val (.ref s1), .val (.int 2), .val (.ref d1), .val (.int 2), .val (.int 4), .val (.int 2), .val (.int c1)] [(.int 4), (.int 2)])
      refine oS (fun t k => XS.icmpNo Xs1.here hx rfl (hb hby dci4_7) rfl (tlt (by decide : (2 : Int32) < (4 : Int32))).2.1 k) ?_
      show oG p e below _ Ts1 (mkF m 10 #[.val (.ref s1), .val (.int 2), .val (.ref d1), .val (.int 2), .val (.int 4), .val (.int 2), .val (.int c1)] [])
      refine oS (fun t k => XS.aloadN Xs1.here hx rfl (hb hby dci4_10) rfl rfl k) ?_
      refine oS (fun t k => XS.iloadN Xs1.here hx rfl (hb hby dci4_11) rfl  k) ?_
      show oG p e below _ Ts1 (mkF m 12 #[.val (.ref s1), .val (.int 2), .val (.ref d1), .val (.int 2), .val (.int 4), .val (.int 2), .val (.int c1)] [(.int 2), (.ref s1)])
      obtain ⟨cli2, Ari2, -, Si2, Mi2, Hi2, Gi2⟩ := id VS1
      have hini2 : ¬ ((2 : Int32) < 0 ∨ cli2.slots.size ≤ ((2 : Int32)).toNatClampNeg) := inb_of Si2 ⟨by decide, by decide⟩
      refine oS (Xs1.caload hx (j := (2 : Int32)) (v := (.int c2)) (by rw [es1]; exact Ari2.1) (State.isArrayOf_alike hZ.alike Ari2.2.1) Ari2.2.2 hini2 (Has.at Hi2 hini2 rfl) (g := (mkF m 12 #[.val (.ref s1), .val (.int 2), .val (.ref d1), .val (.int 2), .val (.int 4), .val (.int 2), .val (.int c1)] [(.int 2), (.ref s1)])) rfl rfl (hb hby dci4_12)) ?_
      show oG p e below _ Ts1 (mkF m 13 #[.val (.ref s1), .val (.int 2), .val (.ref d1), .val (.int 2), .val (.int 4), .val (.int 2), .val (.int c1)] [(.int c2)])
      refine oS (fun t k => XS.istore Xs1.here hx rfl (hb hby dci4_13) rfl (l' := #[.val (.ref s1), .val (.int 2), .val (.ref d1), .val (.int 2), .val (.int 4), .val (.int 2), .val (.int c2)]) rfl k) ?_
      show oG p e below _ Ts1 (mkF m 15 #[.val (.ref s1), .val (.int 2), .val (.ref d1), .val (.int 2), .val (.int 4), .val (.int 2), .val (.int c2)] [])
      refine oS (fun t k => XS.iload Xs1.here hx rfl (hb hby dci4_15) rfl  k) ?_
      refine oS (fun t k => XS.sipush Xs1.here hx rfl (hb hby dci4_17) k) ?_
      show oG p e below _ Ts1 (mkF m 20 #[.val (.ref s1), .val (.int 2), .val (.ref d1), .val (.int 2), .val (.int 4), .val (.int 2), .val (.int c2)] [(.int 255), (.int c2)])
      by_cases u2 : (255 : Int32) < c2
      · refine oS (fun t k => XS.icmpNo Xs1.here hx rfl (hb hby dci4_20) rfl (tlt u2).2.2.2 k) ?_
        show oG p e below _ Ts1 (mkF m 23 #[.val (.ref s1), .val (.int 2), .val (.ref d1), .val (.int 2), .val (.int 4), .val (.int 2), .val (.int c2)] [])
        refine oS (fun t k => XS.iload Xs1.here hx rfl (hb hby dci4_23) rfl  k) ?_
        show oG p e below _ Ts1 (mkF m 25 #[.val (.ref s1), .val (.int 2), .val (.ref d1), .val (.int 2), .val (.int 4), .val (.int 2), .val (.int c2)] [(.int 2)])
        refine own_retI Xs1 hx hlk hret (hb hby dci4_25) ?_ (by decide) (by decide)
        rw [es1]
        exact ⟨_, rfl, Ns1, KS1, Or.inr (Or.inr (Or.inl ⟨rfl, u2⟩))⟩
      · refine oS (fun t k => XS.icmpYes Xs1.here hx rfl (pc0 := 20) (pc' := 26) rfl (hb hby dci4_20) rfl (flt u2).2.2.2 (by decide) (by decide) k) ?_
        show oG p e below _ Ts1 (mkF m 26 #[.val (.ref s1), .val (.int 2), .val (.ref d1), .val (.int 2), .val (.int 4), .val (.int 2), .val (.int c2)] [])
        refine oS (fun t k => XS.aloadN Xs1.here hx rfl (hb hby dci4_26) rfl rfl k) ?_
        refine oS (fun t k => XS.iloadN Xs1.here hx rfl (hb hby dci4_27) rfl  k) ?_
        refine oS (fun t k => XS.iload Xs1.here hx rfl (hb hby dci4_28) rfl  k) ?_
        refine oS (fun t k => XS.i2b Xs1.here hx rfl (hb hby dci4_30) rfl k) ?_
        show oG p e below _ Ts1 (mkF m 31 #[.val (.ref s1), .val (.int 2), .val (.ref d1), .val (.int 2), .val (.int 4), .val (.int 2), .val (.int c2)] [(.int (c2.toInt8.toInt32)), (.int 2), (.ref d1)])
        obtain ⟨cls2, Ars2, qs2, Ss2, Ms2, Hs2, Gs2⟩ := Vs1
        have hins2 : ¬ ((2 : Int32) < 0 ∨ cls2.slots.size ≤ ((2 : Int32)).toNatClampNeg) := inb_of Ss2 ⟨by decide, by decide⟩
        obtain ⟨Ts2, hs2, Xs2, es2, Ws2, sts2⟩ := stB Xs1 hx hZ es1 Ars2 (j := (2 : Int32)) hins2 (g := (mkF m 31 #[.val (.ref s1), .val (.int 2), .val (.ref d1), .val (.int 2), .val (.int 4), .val (.int 2), .val (.int c2)] [(.int (c2.toInt8.toInt32)), (.int 2), (.ref d1)])) rfl rfl (hb hby dci4_31)
        refine oS sts2 ?_
        have Vs2 := Arv.set Ars2 qs2 Ss2 Ms2 Hs2 Gs2 (fits_nar_byte _) Ws2 2 rfl (Nat.le_of_ble_eq_true rfl)
        have Ns2 := Fr.snoc Xs2 Ns1 gd
        show oG p e below _ Ts2 (mkF m 32 #[.val (.ref s1), .val (.int 2), .val (.ref d1), .val (.int 2), .val (.int 4), .val (.int 2), .val (.int c2)] [])
        have KS2 := KS1.wr Ws2 (Or.inl (List.mem_of_getElem? (i := 0) rfl))
        have VS2 := VS1.other Ws2 hne
        refine oS (fun t k => XS.iinc Xs2.here hx rfl (hb hby dci4_32) rfl (l' := #[.val (.ref s1), .val (.int ((2 : Int32) + (1 : Int32))), .val (.ref d1), .val (.int 2), .val (.int 4), .val (.int 2), .val (.int c2)]) rfl k) ?_
        show oG p e below _ Ts2 (mkF m 35 #[.val (.ref s1), .val (.int ((2 : Int32) + (1 : Int32))), .val (.ref d1), .val (.int 2), .val (.int 4), .val (.int 2), .val (.int c2)] [])
        show oG p e below _ Ts2 (mkF m 35 #[.val (.ref s1), .val (.int 3), .val (.ref d1), .val (.int 2), .val (.int 4), .val (.int 2), .val (.int c2)] [])
        refine oS (fun t k => XS.iinc Xs2.here hx rfl (hb hby dci4_35) rfl (l' := #[.val (.ref s1), .val (.int 3), .val (.ref d1), .val (.int ((2 : Int32) + (1 : Int32))), .val (.int 4), .val (.int 2), .val (.int c2)]) rfl k) ?_
        show oG p e below _ Ts2 (mkF m 38 #[.val (.ref s1), .val (.int 3), .val (.ref d1), .val (.int ((2 : Int32) + (1 : Int32))), .val (.int 4), .val (.int 2), .val (.int c2)] [])
        show oG p e below _ Ts2 (mkF m 38 #[.val (.ref s1), .val (.int 3), .val (.ref d1), .val (.int 3), .val (.int 4), .val (.int 2), .val (.int c2)] [])
        refine oS (fun t k => XS.iinc Xs2.here hx rfl (hb hby dci4_38) rfl (l' := #[.val (.ref s1), .val (.int 3), .val (.ref d1), .val (.int 3), .val (.int 4), .val (.int ((2 : Int32) + (1 : Int32))), .val (.int c2)]) rfl k) ?_
        show oG p e below _ Ts2 (mkF m 41 #[.val (.ref s1), .val (.int 3), .val (.ref d1), .val (.int 3), .val (.int 4), .val (.int ((2 : Int32) + (1 : Int32))), .val (.int c2)] [])
        show oG p e below _ Ts2 (mkF m 41 #[.val (.ref s1), .val (.int 3), .val (.ref d1), .val (.int 3), .val (.int 4), .val (.int 3), .val (.int c2)] [])
        refine oS (fun t k => XS.goto Xs2.here hx rfl (pc0 := 41) (pc' := 3) rfl (hb hby dci4_41) (by decide) (by decide) k) ?_
        show oG p e below _ Ts2 (mkF m 3 #[.val (.ref s1), .val (.int 3), .val (.ref d1), .val (.int 3), .val (.int 4), .val (.int 3), .val (.int c2)] [])
        refine oS (fun t k => XS.iload Xs2.here hx rfl (hb hby dci4_3) rfl  k) ?_
        refine oS (fun t k => XS.iload Xs2.here hx rfl (hb hby dci4_5) rfl  k) ?_
        show oG p e below _ Ts2 (mkF m 7 #[.val (.ref s1), .val (.int 3), .val (.ref d1), .val (.int 3), .val (.int 4), .val (.int 3), .val (.int c2)] [(.int 4), (.int 3)])
        refine oS (fun t k => XS.icmpNo Xs2.here hx rfl (hb hby dci4_7) rfl (tlt (by decide : (3 : Int32) < (4 : Int32))).2.1 k) ?_
        show oG p e below _ Ts2 (mkF m 10 #[.val (.ref s1), .val (.int 3), .val (.ref d1), .val (.int 3), .val (.int 4), .val (.int 3), .val (.int c2)] [])
        refine oS (fun t k => XS.aloadN Xs2.here hx rfl (hb hby dci4_10) rfl rfl k) ?_
        refine oS (fun t k => XS.iloadN Xs2.here hx rfl (hb hby dci4_11) rfl  k) ?_
        show oG p e below _ Ts2 (mkF m 12 #[.val (.ref s1), .val (.int 3), .val (.ref d1), .val (.int 3), .val (.int 4), .val (.int 3), .val (.int c2)] [(.int 3), (.ref s1)])
        obtain ⟨cli3, Ari3, -, Si3, Mi3, Hi3, Gi3⟩ := id VS2
        have hini3 : ¬ ((3 : Int32) < 0 ∨ cli3.slots.size ≤ ((3 : Int32)).toNatClampNeg) := inb_of Si3 ⟨by decide, by decide⟩
        refine oS (Xs2.caload hx (j := (3 : Int32)) (v := (.int c3)) (by rw [es2]; exact Ari3.1) (State.isArrayOf_alike hZ.alike Ari3.2.1) Ari3.2.2 hini3 (Has.at Hi3 hini3 rfl) (g := (mkF m 12 #[.val (.ref s1), .val (.int 3), .val (.ref d1), .val (.int 3), .val (.int 4), .val (.int 3), .val (.int c2)] [(.int 3), (.ref s1)])) rfl rfl (hb hby dci4_12)) ?_
        show oG p e below _ Ts2 (mkF m 13 #[.val (.ref s1), .val (.int 3), .val (.ref d1), .val (.int 3), .val (.int 4), .val (.int 3), .val (.int c2)] [(.int c3)])
        refine oS (fun t k => XS.istore Xs2.here hx rfl (hb hby dci4_13) rfl (l' := #[.val (.ref s1), .val (.int 3), .val (.ref d1), .val (.int 3), .val (.int 4), .val (.int 3), .val (.int c3)]) rfl k) ?_
        show oG p e below _ Ts2 (mkF m 15 #[.val (.ref s1), .val (.int 3), .val (.ref d1), .val (.int 3), .val (.int 4), .val (.int 3), .val (.int c3)] [])
        refine oS (fun t k => XS.iload Xs2.here hx rfl (hb hby dci4_15) rfl  k) ?_
        refine oS (fun t k => XS.sipush Xs2.here hx rfl (hb hby dci4_17) k) ?_
        show oG p e below _ Ts2 (mkF m 20 #[.val (.ref s1), .val (.int 3), .val (.ref d1), .val (.int 3), .val (.int 4), .val (.int 3), .val (.int c3)] [(.int 255), (.int c3)])
        by_cases u3 : (255 : Int32) < c3
        · refine oS (fun t k => XS.icmpNo Xs2.here hx rfl (hb hby dci4_20) rfl (tlt u3).2.2.2 k) ?_
          show oG p e below _ Ts2 (mkF m 23 #[.val (.ref s1), .val (.int 3), .val (.ref d1), .val (.int 3), .val (.int 4), .val (.int 3), .val (.int c3)] [])
          refine oS (fun t k => XS.iload Xs2.here hx rfl (hb hby dci4_23) rfl  k) ?_
          show oG p e below _ Ts2 (mkF m 25 #[.val (.ref s1), .val (.int 3), .val (.ref d1), .val (.int 3), .val (.int 4), .val (.int 3), .val (.int c3)] [(.int 3)])
          refine own_retI Xs2 hx hlk hret (hb hby dci4_25) ?_ (by decide) (by decide)
          rw [es2]
          exact ⟨_, rfl, Ns2, KS2, Or.inr (Or.inr (Or.inr (⟨rfl, u3⟩)))⟩
        · refine oS (fun t k => XS.icmpYes Xs2.here hx rfl (pc0 := 20) (pc' := 26) rfl (hb hby dci4_20) rfl (flt u3).2.2.2 (by decide) (by decide) k) ?_
          show oG p e below _ Ts2 (mkF m 26 #[.val (.ref s1), .val (.int 3), .val (.ref d1), .val (.int 3), .val (.int 4), .val (.int 3), .val (.int c3)] [])
          refine oS (fun t k => XS.aloadN Xs2.here hx rfl (hb hby dci4_26) rfl rfl k) ?_
          refine oS (fun t k => XS.iloadN Xs2.here hx rfl (hb hby dci4_27) rfl  k) ?_
          refine oS (fun t k => XS.iload Xs2.here hx rfl (hb hby dci4_28) rfl  k) ?_
          refine oS (fun t k => XS.i2b Xs2.here hx rfl (hb hby dci4_30) rfl k) ?_
          show oG p e below _ Ts2 (mkF m 31 #[.val (.ref s1), .val (.int 3), .val (.ref d1), .val (.int 3), .val (.int 4), .val (.int 3), .val (.int c3)] [(.int (c3.toInt8.toInt32)), (.int 3), (.ref d1)])
          obtain ⟨cls3, Ars3, qs3, Ss3, Ms3, Hs3, Gs3⟩ := Vs2
          have hins3 : ¬ ((3 : Int32) < 0 ∨ cls3.slots.size ≤ ((3 : Int32)).toNatClampNeg) := inb_of Ss3 ⟨by decide, by decide⟩
          obtain ⟨Ts3, hs3, Xs3, es3, Ws3, sts3⟩ := stB Xs2 hx hZ es2 Ars3 (j := (3 : Int32)) hins3 (g := (mkF m 31 #[.val (.ref s1), .val (.int 3), .val (.ref d1), .val (.int 3), .val (.int 4), .val (.int 3), .val (.int c3)] [(.int (c3.toInt8.toInt32)), (.int 3), (.ref d1)])) rfl rfl (hb hby dci4_31)
          refine oS sts3 ?_
          have Vs3 := Arv.set Ars3 qs3 Ss3 Ms3 Hs3 Gs3 (fits_nar_byte _) Ws3 3 rfl (Nat.le_of_ble_eq_true rfl)
          have Ns3 := Fr.snoc Xs3 Ns2 gd
          show oG p e below _ Ts3 (mkF m 32 #[.val (.ref s1), .val (.int 3), .val (.ref d1), .val (.int 3), .val (.int 4), .val (.int 3), .val (.int c3)] [])
          have KS3 := KS2.wr Ws3 (Or.inl (List.mem_of_getElem? (i := 0) rfl))
          have VS3 := VS2.other Ws3 hne
          refine oS (fun t k => XS.iinc Xs3.here hx rfl (hb hby dci4_32) rfl (l' := #[.val (.ref s1), .val (.int ((3 : Int32) + (1 : Int32))), .val (.ref d1), .val (.int 3), .val (.int 4), .val (.int 3), .val (.int c3)]) rfl k) ?_
          show oG p e below _ Ts3 (mkF m 35 #[.val (.ref s1), .val (.int ((3 : Int32) + (1 : Int32))), .val (.ref d1), .val (.int 3), .val (.int 4), .val (.int 3), .val (.int c3)] [])
          show oG p e below _ Ts3 (mkF m 35 #[.val (.ref s1), .val (.int 4), .val (.ref d1), .val (.int 3), .val (.int 4), .val (.int 3), .val (.int c3)] [])
          refine oS (fun t k => XS.iinc Xs3.here hx rfl (hb hby dci4_35) rfl (l' := #[.val (.ref s1), .val (.int 4), .val (.ref d1), .val (.int ((3 : Int32) + (1 : Int32))), .val (.int 4), .val (.int 3), .val (.int c3)]) rfl k) ?_
          show oG p e below _ Ts3 (mkF m 38 #[.val (.ref s1), .val (.int 4), .val (.ref d1), .val (.int ((3 : Int32) + (1 : Int32))), .val (.int 4), .val (.int 3), .val (.int c3)] [])
          show oG p e below _ Ts3 (mkF m 38 #[.val (.ref s1), .val (.int 4), .val (.ref d1), .val (.int 4), .val (.int 4), .val (.int 3), .val (.int c3)] [])
          refine oS (fun t k => XS.iinc Xs3.here hx rfl (hb hby dci4_38) rfl (l' := #[.val (.ref s1), .val (.int 4), .val (.ref d1), .val (.int 4), .val (.int 4), .val (.int ((3 : Int32) + (1 : Int32))), .val (.int c3)]) rfl k) ?_
          show oG p e below _ Ts3 (mkF m 41 #[.val (.ref s1), .val (.int 4), .val (.ref d1), .val (.int 4), .val (.int 4), .val (.int ((3 : Int32) + (1 : Int32))), .val (.int c3)] [])
          show oG p e below _ Ts3 (mkF m 41 #[.val (.ref s1), .val (.int 4), .val (.ref d1), .val (.int 4), .val (.int 4), .val (.int 4), .val (.int c3)] [])
          refine oS (fun t k => XS.goto Xs3.here hx rfl (pc0 := 41) (pc' := 3) rfl (hb hby dci4_41) (by decide) (by decide) k) ?_
          show oG p e below _ Ts3 (mkF m 3 #[.val (.ref s1), .val (.int 4), .val (.ref d1), .val (.int 4), .val (.int 4), .val (.int 4), .val (.int c3)] [])
          refine oS (fun t k => XS.iload Xs3.here hx rfl (hb hby dci4_3) rfl  k) ?_
          refine oS (fun t k => XS.iload Xs3.here hx rfl (hb hby dci4_5) rfl  k) ?_
          show oG p e below _ Ts3 (mkF m 7 #[.val (.ref s1), .val (.int 4), .val (.ref d1), .val (.int 4), .val (.int 4), .val (.int 4), .val (.int c3)] [(.int 4), (.int 4)])
          exact absurd hbig (by simp [u0, u1, u2, u3])
theorem dcm4_0 : decode jdk_52_method_16_code 0 = .ok (.iload_n 2, 1) := by decide +kernel
theorem dcm4_1 : decode jdk_52_method_16_code 1 = .ok (.newarray .byte, 2) := by decide +kernel
theorem dcm4_3 : decode jdk_52_method_16_code 3 = .ok (.astore_n 3, 1) := by decide +kernel
theorem dcm4_4 : decode jdk_52_method_16_code 4 = .ok (.aload_n 0, 1) := by decide +kernel
theorem dcm4_5 : decode jdk_52_method_16_code 5 = .ok (.iload_n 1, 1) := by decide +kernel
theorem dcm4_6 : decode jdk_52_method_16_code 6 = .ok (.aload_n 3, 1) := by decide +kernel
theorem dcm4_7 : decode jdk_52_method_16_code 7 = .ok (.iconst 0, 1) := by decide +kernel
theorem dcm4_8 : decode jdk_52_method_16_code 8 = .ok (.iload_n 2, 1) := by decide +kernel
theorem dcm4_9 : decode jdk_52_method_16_code 9 = .ok (.invokestatic 115, 3) := by decide +kernel
theorem dcm4_12 : decode jdk_52_method_16_code 12 = .ok (.istore 4, 2) := by decide +kernel
theorem dcm4_14 : decode jdk_52_method_16_code 14 = .ok (.iload 4, 2) := by decide +kernel
theorem dcm4_16 : decode jdk_52_method_16_code 16 = .ok (.iload_n 2, 1) := by decide +kernel
theorem dcm4_17 : decode jdk_52_method_16_code 17 = .ok (.if_icmp .eq 40, 3) := by decide +kernel
theorem dcm4_20 : decode jdk_52_method_16_code 20 = .ok (.aload_n 0, 1) := by decide +kernel
theorem dcm4_21 : decode jdk_52_method_16_code 21 = .ok (.iload_n 1, 1) := by decide +kernel
theorem dcm4_22 : decode jdk_52_method_16_code 22 = .ok (.iload_n 2, 1) := by decide +kernel
theorem dcm4_23 : decode jdk_52_method_16_code 23 = .ok (.invokestatic 119, 3) := by decide +kernel
theorem dcm4_26 : decode jdk_52_method_16_code 26 = .ok (.astore 5, 2) := by decide +kernel
theorem dcm4_28 : decode jdk_52_method_16_code 28 = .ok (.aload 5, 2) := by decide +kernel
theorem dcm4_30 : decode jdk_52_method_16_code 30 = .ok (.iload 4, 2) := by decide +kernel
theorem dcm4_32 : decode jdk_52_method_16_code 32 = .ok (.invokestatic 71, 3) := by decide +kernel
theorem dcm4_35 : decode jdk_52_method_16_code 35 = .ok (.sipush 255, 3) := by decide +kernel
theorem dcm4_38 : decode jdk_52_method_16_code 38 = .ok (.if_icmp .gt 16, 3) := by decide +kernel
theorem dcm4_41 : decode jdk_52_method_16_code 41 = .ok (.aload 5, 2) := by decide +kernel
theorem dcm4_43 : decode jdk_52_method_16_code 43 = .ok (.iconst 0, 1) := by decide +kernel
theorem dcm4_44 : decode jdk_52_method_16_code 44 = .ok (.aload_n 3, 1) := by decide +kernel
theorem dcm4_45 : decode jdk_52_method_16_code 45 = .ok (.iconst 0, 1) := by decide +kernel
theorem dcm4_46 : decode jdk_52_method_16_code 46 = .ok (.iload_n 2, 1) := by decide +kernel
theorem dcm4_47 : decode jdk_52_method_16_code 47 = .ok (.invokestatic 123, 3) := by decide +kernel
theorem dcm4_50 : decode jdk_52_method_16_code 50 = .ok (.iload_n 2, 1) := by decide +kernel
theorem dcm4_51 : decode jdk_52_method_16_code 51 = .ok (.if_icmp .eq 6, 3) := by decide +kernel
theorem dcm4_54 : decode jdk_52_method_16_code 54 = .ok (.aload 5, 2) := by decide +kernel
theorem dcm4_56 : decode jdk_52_method_16_code 56 = .ok (.areturn, 1) := by decide +kernel
theorem dcm4_57 : decode jdk_52_method_16_code 57 = .ok (.aload_n 3, 1) := by decide +kernel
theorem dcm4_58 : decode jdk_52_method_16_code 58 = .ok (.areturn, 1) := by decide +kernel
theorem efcm4 (m : MethodId) (x0 : Addr) (x1 : Int32) (x2 : Int32) : entryFrame m #[(.ref x0), (.int x1), (.int x2)] 6 = mkF m 0 #[.val (.ref x0), .val (.int x1), .val (.int x2), .unset, .unset, .unset] [] := by first | (simp [entryFrame, mkF, argsToLocals, Value.category]; done) | rfl
set_option maxRecDepth 65536 in
set_option maxHeartbeats 40000000 in
theorem rm_cm4 (l : Launch) (Z : State) (a0 : Array Value) (hw : ∀ d ∈ tables_1, d.before a0 Z = true) (ws : List Jvm.Cond) (s1 : Addr) (ks : ClassId) (ds : Value) (c0 : Int32) (c1 : Int32) (c2 : Int32) (c3 : Int32) (h0 : Heap) (n0 : Nat) (Z0 : n0 ≤ h0.size) (V1 : Arv Z h0 s1 ks .char (4 : Int32) (([c0, c1, c2, c3] : List Int32).map Value.int) ds) (hbig : 255 < c0 ∨ 255 < c1 ∨ 255 < c2 ∨ 255 < c3) (hr : ∀ c ∈ ([c0, c1, c2, c3] : List Int32), ¬ c < 0 ∧ ¬ (65535 : Int32) < c) (SA : Sta Z h0 "java/lang/StringUTF16" "$assertionsDisabled" "Z" (.int 1)) (SH : Sta Z h0 "java/lang/StringUTF16" "HI_BYTE_SHIFT" "I" (.int 0)) (SL : Sta Z h0 "java/lang/StringUTF16" "LO_BYTE_SHIFT" "I" (.int 8)) :
    own_Met l Z ws (⟨"java/lang/StringUTF16", "compress", "([CII)[B"⟩ : MethodName) jdk_52_method_16_code 6 (some (.array .byte)) ({ frames := 3, cells := 2, slots := 12, locals := 50 } : Room) #[(.ref s1), (.int 0), (.int 4)] h0 (fun v h L => ∃ (b : Addr) (kb : ClassId), v = some (.ref b) ∧ Fr n0 L ∧ Keep h0 h [] ∧ n0 ≤ b ∧ h0.size ≤ b ∧ Arv Z h b kb .byte (8 : Int32) (StrChars.Road.wideBytes ([c0, c1, c2, c3] : List Int32)) (.int 0)) := by
  refine own_body (plainFor_of_name pn_0) ?_
  intro p e s m below meth c s₁ hx hby hml hret hlk hown hnm hZ X0 e0
  have hml : c.maxLocals = 6 := hml
  have hown : s.vm.findClass "java/lang/StringUTF16" = some m.cls := hown
  have N0 := Fr.nil n0
  refine own_cast (efcm4 m s1 (0 : Int32) (4 : Int32)) ?_
  show oG p e below _ s₁ (mkF m 0 #[.val (.ref s1), .val (.int 0), .val (.int 4), .unset, .unset, .unset] [])
  refine oS (fun t k => XS.iloadN X0.here hx rfl (hb hby dcm4_0) rfl  k) ?_
  show oG p e below _ s₁ (mkF m 1 #[.val (.ref s1), .val (.int 0), .val (.int 4), .unset, .unset, .unset] [(.int 4)])
  obtain ⟨T1, h1, k1, X1, e1, E1, A1, st1⟩ := newP X0 hx hZ (oW hw 15 rfl) e0 (g := (mkF m 1 #[.val (.ref s1), .val (.int 0), .val (.int 4), .unset, .unset, .unset] [(.int 4)])) rfl (hb hby dcm4_1) rfl (by decide) (cap := 4) (by decide) (by decide) (by decide) (by decide)
  obtain ⟨b1, g1⟩ : ∃ z, z = h0.size := ⟨_, rfl⟩
  rw [← g1] at A1 st1
  have V1' : Arv Z h1 b1 k1 .byte (4 : Int32) [(.int 0), (.int 0), (.int 0), (.int 0)] (.int 0) := (Arv.new A1 (by decide)).pad (pad_rep [] (.int 0) 4)
  refine oS st1 ?_
  show oG p e below _ T1 (mkF m 3 #[.val (.ref s1), .val (.int 0), .val (.int 4), .unset, .unset, .unset] [(.ref b1)])
  have Z1 : n0 ≤ h1.size := Nat.le_trans Z0 E1.1
  have g0 : n0 ≤ b1 := Nat.le_trans Z0 (Nat.le_of_eq g1.symm)
  have ne : s1 ≠ b1 := Nat.ne_of_lt (Nat.lt_of_lt_of_le V1.lt (Nat.le_of_eq g1.symm))
  have zb : h0.size ≤ b1 := Nat.le_of_eq g1.symm
  refine oS (fun t k => XS.astoreN X1.here hx rfl (hb hby dcm4_3) rfl rfl (l' := #[.val (.ref s1), .val (.int 0), .val (.int 4), .val (.ref b1), .unset, .unset]) rfl k) ?_
  show oG p e below _ T1 (mkF m 4 #[.val (.ref s1), .val (.int 0), .val (.int 4), .val (.ref b1), .unset, .unset] [])
  refine oS (fun t k => XS.aloadN X1.here hx rfl (hb hby dcm4_4) rfl rfl k) ?_
  refine oS (fun t k => XS.iloadN X1.here hx rfl (hb hby dcm4_5) rfl  k) ?_
  refine oS (fun t k => XS.aloadN X1.here hx rfl (hb hby dcm4_6) rfl rfl k) ?_
  refine oS (fun t k => XS.iconst X1.here hx rfl (hb hby dcm4_7) k) ?_
  refine oS (fun t k => XS.iloadN X1.here hx rfl (hb hby dcm4_8) rfl  k) ?_
  show oG p e below _ T1 (mkF m 9 #[.val (.ref s1), .val (.int 0), .val (.int 4), .val (.ref b1), .unset, .unset] [(.int 4), (.int 0), (.ref b1), (.int 0), (.ref s1)])
  refine own_callS X1 hx hZ (y := (⟨"java/lang/StringUTF16", "compress", "([CI[BII)I"⟩ : MethodName)) (W := 0) (kc := 0) (ks := 0) hown (oW hw 36 rfl) (oW hw 37 rfl) (oW hw 34 rfl) (oW hw 38 rfl) (own_back (W := 0) (rm_ci4 l Z a0 hw [] s1 b1 ks k1 ds c0 c1 c2 c3 h1 n0 Z1 (V1.ext E1) V1' ne g0 hbig) hZ (oW hw 38 rfl) (oW hw 34 rfl) (by decide) (by decide)) (by decide) (g := (mkF m 9 #[.val (.ref s1), .val (.int 0), .val (.int 4), .val (.ref b1), .unset, .unset] [(.int 4), (.int 0), (.ref b1), (.int 0), (.ref s1)])) rfl (by rw [hml]; rfl) (argsL := [(.ref s1), (.int 0), (.ref b1), (.int 0), (.int 4)]) (rest := []) (lenOf pd_9 rfl) rfl (by show 2 * 0 + _ ≤ _; exact Nat.le_of_eq rfl) (hb hby dcm4_9) rfl e1 (by decide) (by decide) (fun v9 T9 L9 X9 hQ9 => ?_)
  obtain ⟨kx, rfl, M9, K9, hk⟩ := hQ9
  have N9 := Fr.app N0 M9
  have KK9 : Keep h0 T9.heap [] := ((Keep.refl h0 []).ext E1).trans K9 (allS (Or.inr zb) all0)
  have Z9 : n0 ≤ T9.heap.size := Nat.le_trans Z1 K9.1
  have V9 := V1.keep KK9 nin0
  have SA9 := own_staK0 SA KK9
  have SH9 := own_staK0 SH KK9
  have SL9 := own_staK0 SL KK9
  show oG p e below _ T9 (mkF m 12 #[.val (.ref s1), .val (.int 0), .val (.int 4), .val (.ref b1), .unset, .unset] [(.int kx)])
  refine oS (fun t k => XS.istore X9.here hx rfl (hb hby dcm4_12) rfl (l' := #[.val (.ref s1), .val (.int 0), .val (.int 4), .val (.ref b1), .val (.int kx), .unset]) rfl k) ?_
  show oG p e below _ T9 (mkF m 14 #[.val (.ref s1), .val (.int 0), .val (.int 4), .val (.ref b1), .val (.int kx), .unset] [])
  refine oS (fun t k => XS.iload X9.here hx rfl (hb hby dcm4_14) rfl  k) ?_
  refine oS (fun t k => XS.iloadN X9.here hx rfl (hb hby dcm4_16) rfl  k) ?_
  show oG p e below _ T9 (mkF m 17 #[.val (.ref s1), .val (.int 0), .val (.int 4), .val (.ref b1), .val (.int kx), .unset] [(.int 4), (.int kx)])
  rcases hk with ⟨rfl, hk⟩ | ⟨rfl, hk⟩ | ⟨rfl, hk⟩ | ⟨rfl, hk⟩
  · show oG p e below _ T9 (mkF m 17 #[.val (.ref s1), .val (.int 0), .val (.int 4), .val (.ref b1), .val (.int 0), .unset] [(.int 4), (.int 0)])
    refine oS (fun t k => XS.icmpNo X9.here hx rfl (hb hby dcm4_17) rfl (feq (by decide : ¬ (0 : Int32) = (4 : Int32))).1 k) ?_
    show oG p e below _ T9 (mkF m 20 #[.val (.ref s1), .val (.int 0), .val (.int 4), .val (.ref b1), .val (.int 0), .unset] [])
    refine oS (fun t k => XS.aloadN X9.here hx rfl (hb hby dcm4_20) rfl rfl k) ?_
    refine oS (fun t k => XS.iloadN X9.here hx rfl (hb hby dcm4_21) rfl  k) ?_
    refine oS (fun t k => XS.iloadN X9.here hx rfl (hb hby dcm4_22) rfl  k) ?_
    show oG p e below _ T9 (mkF m 23 #[.val (.ref s1), .val (.int 0), .val (.int 4), .val (.ref b1), .val (.int 0), .unset] [(.int 4), (.int 0), (.ref s1)])
    refine own_callS X9 hx hZ (y := (⟨"java/lang/StringUTF16", "toBytes", "([CII)[B"⟩ : MethodName)) (W := 0) (kc := 1) (ks := 8) hown (oW hw 80 rfl) (oW hw 81 rfl) (oW hw 34 rfl) (oW hw 82 rfl) (own_back (W := 0) (rm_tb4 l Z a0 hw [] s1 ks ds c0 c1 c2 c3 T9.heap n0 Z9 V9 SA9 SH9 SL9) hZ (oW hw 82 rfl) (oW hw 34 rfl) (by decide) (by decide)) (by decide) (g := (mkF m 23 #[.val (.ref s1), .val (.int 0), .val (.int 4), .val (.ref b1), .val (.int 0), .unset] [(.int 4), (.int 0), (.ref s1)])) rfl (by rw [hml]; rfl) (argsL := [(.ref s1), (.int 0), (.int 4)]) (rest := []) (lenOf pd_10 rfl) rfl (by show 2 * 0 + _ ≤ _; exact Nat.le_of_eq rfl) (hb hby dcm4_23) rfl rfl (by decide) (by decide) (fun v23 T23 L23 X23 hQ23 => ?_)
    obtain ⟨kb, rfl, M23, K23, B23⟩ := hQ23
    have N23 := Fr.app N9 M23
    have KK23 : Keep h0 T23.heap [] := KK9.trans K23 all0
    have Z23 : n0 ≤ T23.heap.size := Nat.le_trans Z9 K23.1
    have SA23 := own_staK0 SA9 K23
    have SH23 := own_staK0 SH9 K23
    have SL23 := own_staK0 SL9 K23
    show oG p e below _ T23 (mkF m 26 #[.val (.ref s1), .val (.int 0), .val (.int 4), .val (.ref b1), .val (.int 0), .unset] [(.ref T9.heap.size)])
    refine oS (fun t k => XS.astore X23.here hx rfl (hb hby dcm4_26) rfl rfl (l' := #[.val (.ref s1), .val (.int 0), .val (.int 4), .val (.ref b1), .val (.int 0), .val (.ref T9.heap.size)]) rfl k) ?_
    show oG p e below _ T23 (mkF m 28 #[.val (.ref s1), .val (.int 0), .val (.int 4), .val (.ref b1), .val (.int 0), .val (.ref T9.heap.size)] [])
    refine oS (fun t k => XS.aload X23.here hx rfl (hb hby dcm4_28) rfl rfl k) ?_
    refine oS (fun t k => XS.iload X23.here hx rfl (hb hby dcm4_30) rfl  k) ?_
    show oG p e below _ T23 (mkF m 32 #[.val (.ref s1), .val (.int 0), .val (.int 4), .val (.ref b1), .val (.int 0), .val (.ref T9.heap.size)] [(.int 0), (.ref T9.heap.size)])
    refine own_callS X23 hx hZ (y := (⟨"java/lang/StringUTF16", "getChar", "([BI)C"⟩ : MethodName)) (W := 0) (kc := 0) (ks := 0) hown (oW hw 96 rfl) (oW hw 97 rfl) (oW hw 34 rfl) (oW hw 98 rfl) (own_back (W := 0) (rm_gc l Z a0 hw [] T9.heap.size 0 kb ([c0, c1, c2, c3] : List Int32) T23.heap n0 Z23 B23 (Nat.le_of_ble_eq_true rfl) hr (Nat.le_of_ble_eq_true rfl) SA23 SH23 SL23) hZ (oW hw 98 rfl) (oW hw 34 rfl) (by decide) (by decide)) (by decide) (g := (mkF m 32 #[.val (.ref s1), .val (.int 0), .val (.int 4), .val (.ref b1), .val (.int 0), .val (.ref T9.heap.size)] [(.int 0), (.ref T9.heap.size)])) rfl (by rw [hml]; rfl) (argsL := [(.ref T9.heap.size), (.int 0)]) (rest := []) (lenOf pd_4 rfl) rfl (by show 2 * 0 + _ ≤ _; exact Nat.le_of_eq rfl) (hb hby dcm4_32) rfl rfl (by decide) (by decide) (fun v32 T32 L32 X32 hQ32 => ?_)
    obtain ⟨rfl, M32, e32⟩ := hQ32
    have N32 := Fr.app N23 M32
    show oG p e below _ T32 (mkF m 35 #[.val (.ref s1), .val (.int 0), .val (.int 4), .val (.ref b1), .val (.int 0), .val (.ref T9.heap.size)] [(.int c0)])
    refine oS (fun t k => XS.sipush X32.here hx rfl (hb hby dcm4_35) k) ?_
    show oG p e below _ T32 (mkF m 38 #[.val (.ref s1), .val (.int 0), .val (.int 4), .val (.ref b1), .val (.int 0), .val (.ref T9.heap.size)] [(.int 255), (.int c0)])
    refine oS (fun t k => XS.icmpYes X32.here hx rfl (pc0 := 38) (pc' := 54) rfl (hb hby dcm4_38) rfl (tlt hk).2.2.1 (by decide) (by decide) k) ?_
    show oG p e below _ T32 (mkF m 54 #[.val (.ref s1), .val (.int 0), .val (.int 4), .val (.ref b1), .val (.int 0), .val (.ref T9.heap.size)] [])
    refine oS (fun t k => XS.aload X32.here hx rfl (hb hby dcm4_54) rfl rfl k) ?_
    show oG p e below _ T32 (mkF m 56 #[.val (.ref s1), .val (.int 0), .val (.int 4), .val (.ref b1), .val (.int 0), .val (.ref T9.heap.size)] [(.ref T9.heap.size)])
    refine own_retA X32 hx hlk hret rfl rfl (hb hby dcm4_56) ?_ (by decide) (by decide)
    rw [e32]
    exact ⟨_, kb, rfl, N32, KK23, Z9, KK9.1, B23⟩
  · show oG p e below _ T9 (mkF m 17 #[.val (.ref s1), .val (.int 0), .val (.int 4), .val (.ref b1), .val (.int 1), .unset] [(.int 4), (.int 1)])
    refine oS (fun t k => XS.icmpNo X9.here hx rfl (hb hby dcm4_17) rfl (feq (by decide : ¬ (1 : Int32) = (4 : Int32))).1 k) ?_
    show oG p e below _ T9 (mkF m 20 #[.val (.ref s1), .val (.int 0), .val (.int 4), .val (.ref b1), .val (.int 1), .unset] [])
    refine oS (fun t k => XS.aloadN X9.here hx rfl (hb hby dcm4_20) rfl rfl k) ?_
    refine oS (fun t k => XS.iloadN X9.here hx rfl (hb hby dcm4_21) rfl  k) ?_
    refine oS (fun t k => XS.iloadN X9.here hx rfl (hb hby dcm4_22) rfl  k) ?_
    show oG p e below _ T9 (mkF m 23 #[.val (.ref s1), .val (.int 0), .val (.int 4), .val (.ref b1), .val (.int 1), .unset] [(.int 4), (.int 0), (.ref s1)])
    refine own_callS X9 hx hZ (y := (⟨"java/lang/StringUTF16", "toBytes", "([CII)[B"⟩ : MethodName)) (W := 0) (kc := 1) (ks := 8) hown (oW hw 80 rfl) (oW hw 81 rfl) (oW hw 34 rfl) (oW hw 82 rfl) (own_back (W := 0) (rm_tb4 l Z a0 hw [] s1 ks ds c0 c1 c2 c3 T9.heap n0 Z9 V9 SA9 SH9 SL9) hZ (oW hw 82 rfl) (oW hw 34 rfl) (by decide) (by decide)) (by decide) (g := (mkF m 23 #[.val (.ref s1), .val (.int 0), .val (.int 4), .val (.ref b1), .val (.int 1), .unset] [(.int 4), (.int 0), (.ref s1)])) rfl (by rw [hml]; rfl) (argsL := [(.ref s1), (.int 0), (.int 4)]) (rest := []) (lenOf pd_10 rfl) rfl (by show 2 * 0 + _ ≤ _; exact Nat.le_of_eq rfl) (hb hby dcm4_23) rfl rfl (by decide) (by decide) (fun v23 T23 L23 X23 hQ23 => ?_)
    obtain ⟨kb, rfl, M23, K23, B23⟩ := hQ23
    have N23 := Fr.app N9 M23
    have KK23 : Keep h0 T23.heap [] := KK9.trans K23 all0
    have Z23 : n0 ≤ T23.heap.size := Nat.le_trans Z9 K23.1
    have SA23 := own_staK0 SA9 K23
    have SH23 := own_staK0 SH9 K23
    have SL23 := own_staK0 SL9 K23
    show oG p e below _ T23 (mkF m 26 #[.val (.ref s1), .val (.int 0), .val (.int 4), .val (.ref b1), .val (.int 1), .unset] [(.ref T9.heap.size)])
    refine oS (fun t k => XS.astore X23.here hx rfl (hb hby dcm4_26) rfl rfl (l' := #[.val (.ref s1), .val (.int 0), .val (.int 4), .val (.ref b1), .val (.int 1), .val (.ref T9.heap.size)]) rfl k) ?_
    show oG p e below _ T23 (mkF m 28 #[.val (.ref s1), .val (.int 0), .val (.int 4), .val (.ref b1), .val (.int 1), .val (.ref T9.heap.size)] [])
    refine oS (fun t k => XS.aload X23.here hx rfl (hb hby dcm4_28) rfl rfl k) ?_
    refine oS (fun t k => XS.iload X23.here hx rfl (hb hby dcm4_30) rfl  k) ?_
    show oG p e below _ T23 (mkF m 32 #[.val (.ref s1), .val (.int 0), .val (.int 4), .val (.ref b1), .val (.int 1), .val (.ref T9.heap.size)] [(.int 1), (.ref T9.heap.size)])
    refine own_callS X23 hx hZ (y := (⟨"java/lang/StringUTF16", "getChar", "([BI)C"⟩ : MethodName)) (W := 0) (kc := 0) (ks := 0) hown (oW hw 96 rfl) (oW hw 97 rfl) (oW hw 34 rfl) (oW hw 98 rfl) (own_back (W := 0) (rm_gc l Z a0 hw [] T9.heap.size 1 kb ([c0, c1, c2, c3] : List Int32) T23.heap n0 Z23 B23 (Nat.le_of_ble_eq_true rfl) hr (Nat.le_of_ble_eq_true rfl) SA23 SH23 SL23) hZ (oW hw 98 rfl) (oW hw 34 rfl) (by decide) (by decide)) (by decide) (g := (mkF m 32 #[.val (.ref s1), .val (.int 0), .val (.int 4), .val (.ref b1), .val (.int 1), .val (.ref T9.heap.size)] [(.int 1), (.ref T9.heap.size)])) rfl (by rw [hml]; rfl) (argsL := [(.ref T9.heap.size), (.int 1)]) (rest := []) (lenOf pd_4 rfl) rfl (by show 2 * 0 + _ ≤ _; exact Nat.le_of_eq rfl) (hb hby dcm4_32) rfl rfl (by decide) (by decide) (fun v32 T32 L32 X32 hQ32 => ?_)
    obtain ⟨rfl, M32, e32⟩ := hQ32
    have N32 := Fr.app N23 M32
    show oG p e below _ T32 (mkF m 35 #[.val (.ref s1), .val (.int 0), .val (.int 4), .val (.ref b1), .val (.int 1), .val (.ref T9.heap.size)] [(.int c1)])
    refine oS (fun t k => XS.sipush X32.here hx rfl (hb hby dcm4_35) k) ?_
    show oG p e below _ T32 (mkF m 38 #[.val (.ref s1), .val (.int 0), .val (.int 4), .val (.ref b1), .val (.int 1), .val (.ref T9.heap.size)] [(.int 255), (.int c1)])
    refine oS (fun t k => XS.icmpYes X32.here hx rfl (pc0 := 38) (pc' := 54) rfl (hb hby dcm4_38) rfl (tlt hk).2.2.1 (by decide) (by decide) k) ?_
    show oG p e below _ T32 (mkF m 54 #[.val (.ref s1), .val (.int 0), .val (.int 4), .val (.ref b1), .val (.int 1), .val (.ref T9.heap.size)] [])
    refine oS (fun t k => XS.aload X32.here hx rfl (hb hby dcm4_54) rfl rfl k) ?_
    show oG p e below _ T32 (mkF m 56 #[.val (.ref s1), .val (.int 0), .val (.int 4), .val (.ref b1), .val (.int 1), .val (.ref T9.heap.size)] [(.ref T9.heap.size)])
    refine own_retA X32 hx hlk hret rfl rfl (hb hby dcm4_56) ?_ (by decide) (by decide)
    rw [e32]
    exact ⟨_, kb, rfl, N32, KK23, Z9, KK9.1, B23⟩
  · show oG p e below _ T9 (mkF m 17 #[.val (.ref s1), .val (.int 0), .val (.int 4), .val (.ref b1), .val (.int 2), .unset] [(.int 4), (.int 2)])
    refine oS (fun t k => XS.icmpNo X9.here hx rfl (hb hby dcm4_17) rfl (feq (by decide : ¬ (2 : Int32) = (4 : Int32))).1 k) ?_
    show oG p e below _ T9 (mkF m 20 #[.val (.ref s1), .val (.int 0), .val (.int 4), .val (.ref b1), .val (.int 2), .unset] [])
    refine oS (fun t k => XS.aloadN X9.here hx rfl (hb hby dcm4_20) rfl rfl k) ?_
    refine oS (fun t k => XS.iloadN X9.here hx rfl (hb hby dcm4_21) rfl  k) ?_
    refine oS (fun t k => XS.iloadN X9.here hx rfl (hb hby dcm4_22) rfl  k) ?_
    show oG p e below _ T9 (mkF m 23 #[.val (.ref s1), .val (.int 0), .val (.int 4), .val (.ref b1), .val (.int 2), .unset] [(.int 4), (.int 0), (.ref s1)])
    refine own_callS X9 hx hZ (y := (⟨"java/lang/StringUTF16", "toBytes", "([CII)[B"⟩ : MethodName)) (W := 0) (kc := 1) (ks := 8) hown (oW hw 80 rfl) (oW hw 81 rfl) (oW hw 34 rfl) (oW hw 82 rfl) (own_back (W := 0) (rm_tb4 l Z a0 hw [] s1 ks ds c0 c1 c2 c3 T9.heap n0 Z9 V9 SA9 SH9 SL9) hZ (oW hw 82 rfl) (oW hw 34 rfl) (by decide) (by decide)) (by decide) (g := (mkF m 23 #[.val (.ref s1), .val (.int 0), .val (.int 4), .val (.ref b1), .val (.int 2), .unset] [(.int 4), (.int 0), (.ref s1)])) rfl (by rw [hml]; rfl) (argsL := [(.ref s1), (.int 0), (.int 4)]) (rest := []) (lenOf pd_10 rfl) rfl (by show 2 * 0 + _ ≤ _; exact Nat.le_of_eq rfl) (hb hby dcm4_23) rfl rfl (by decide) (by decide) (fun v23 T23 L23 X23 hQ23 => ?_)
    obtain ⟨kb, rfl, M23, K23, B23⟩ := hQ23
    have N23 := Fr.app N9 M23
    have KK23 : Keep h0 T23.heap [] := KK9.trans K23 all0
    have Z23 : n0 ≤ T23.heap.size := Nat.le_trans Z9 K23.1
    have SA23 := own_staK0 SA9 K23
    have SH23 := own_staK0 SH9 K23
    have SL23 := own_staK0 SL9 K23
    show oG p e below _ T23 (mkF m 26 #[.val (.ref s1), .val (.int 0), .val (.int 4), .val (.ref b1), .val (.int 2), .unset] [(.ref T9.heap.size)])
    refine oS (fun t k => XS.astore X23.here hx rfl (hb hby dcm4_26) rfl rfl (l' := #[.val (.ref s1), .val (.int 0), .val (.int 4), .val (.ref b1), .val (.int 2), .val (.ref T9.heap.size)]) rfl k) ?_
    show oG p e below _ T23 (mkF m 28 #[.val (.ref s1), .val (.int 0), .val (.int 4), .val (.ref b1), .val (.int 2), .val (.ref T9.heap.size)] [])
    refine oS (fun t k => XS.aload X23.here hx rfl (hb hby dcm4_28) rfl rfl k) ?_
    refine oS (fun t k => XS.iload X23.here hx rfl (hb hby dcm4_30) rfl  k) ?_
    show oG p e below _ T23 (mkF m 32 #[.val (.ref s1), .val (.int 0), .val (.int 4), .val (.ref b1), .val (.int 2), .val (.ref T9.heap.size)] [(.int 2), (.ref T9.heap.size)])
    refine own_callS X23 hx hZ (y := (⟨"java/lang/StringUTF16", "getChar", "([BI)C"⟩ : MethodName)) (W := 0) (kc := 0) (ks := 0) hown (oW hw 96 rfl) (oW hw 97 rfl) (oW hw 34 rfl) (oW hw 98 rfl) (own_back (W := 0) (rm_gc l Z a0 hw [] T9.heap.size 2 kb ([c0, c1, c2, c3] : List Int32) T23.heap n0 Z23 B23 (Nat.le_of_ble_eq_true rfl) hr (Nat.le_of_ble_eq_true rfl) SA23 SH23 SL23) hZ (oW hw 98 rfl) (oW hw 34 rfl) (by decide) (by decide)) (by decide) (g := (mkF m 32 #[.val (.ref s1), .val (.int 0), .val (.int 4), .val (.ref b1), .val (.int 2), .val (.ref T9.heap.size)] [(.int 2), (.ref T9.heap.size)])) rfl (by rw [hml]; rfl) (argsL := [(.ref T9.heap.size), (.int 2)]) (rest := []) (lenOf pd_4 rfl) rfl (by show 2 * 0 + _ ≤ _; exact Nat.le_of_eq rfl) (hb hby dcm4_32) rfl rfl (by decide) (by decide) (fun v32 T32 L32 X32 hQ32 => ?_)
    obtain ⟨rfl, M32, e32⟩ := hQ32
    have N32 := Fr.app N23 M32
    show oG p e below _ T32 (mkF m 35 #[.val (.ref s1), .val (.int 0), .val (.int 4), .val (.ref b1), .val (.int 2), .val (.ref T9.heap.size)] [(.int c2)])
    refine oS (fun t k => XS.sipush X32.here hx rfl (hb hby dcm4_35) k) ?_
    show oG p e below _ T32 (mkF m 38 #[.val (.ref s1), .val (.int 0), .val (.int 4), .val (.ref b1), .val (.int 2), .val (.ref T9.heap.size)] [(.int 255), (.int c2)])
    refine oS (fun t k => XS.icmpYes X32.here hx rfl (pc0 := 38) (pc' := 54) rfl (hb hby dcm4_38) rfl (tlt hk).2.2.1 (by decide) (by decide) k) ?_
    show oG p e below _ T32 (mkF m 54 #[.val (.ref s1), .val (.int 0), .val (.int 4), .val (.ref b1), .val (.int 2), .val (.ref T9.heap.size)] [])
    refine oS (fun t k => XS.aload X32.here hx rfl (hb hby dcm4_54) rfl rfl k) ?_
    show oG p e below _ T32 (mkF m 56 #[.val (.ref s1), .val (.int 0), .val (.int 4), .val (.ref b1), .val (.int 2), .val (.ref T9.heap.size)] [(.ref T9.heap.size)])
    refine own_retA X32 hx hlk hret rfl rfl (hb hby dcm4_56) ?_ (by decide) (by decide)
    rw [e32]
    exact ⟨_, kb, rfl, N32, KK23, Z9, KK9.1, B23⟩
  · show oG p e below _ T9 (mkF m 17 #[.val (.ref s1), .val (.int 0), .val (.int 4), .val (.ref b1), .val (.int 3), .unset] [(.int 4), (.int 3)])
    refine oS (fun t k => XS.icmpNo X9.here hx rfl (hb hby dcm4_17) rfl (feq (by decide : ¬ (3 : Int32) = (4 : Int32))).1 k) ?_
    show oG p e below _ T9 (mkF m 20 #[.val (.ref s1), .val (.int 0), .val (.int 4), .val (.ref b1), .val (.int 3), .unset] [])
    refine oS (fun t k => XS.aloadN X9.here hx rfl (hb hby dcm4_20) rfl rfl k) ?_
    refine oS (fun t k => XS.iloadN X9.here hx rfl (hb hby dcm4_21) rfl  k) ?_
    refine oS (fun t k => XS.iloadN X9.here hx rfl (hb hby dcm4_22) rfl  k) ?_
    show oG p e below _ T9 (mkF m 23 #[.val (.ref s1), .val (.int 0), .val (.int 4), .val (.ref b1), .val (.int 3), .unset] [(.int 4), (.int 0), (.ref s1)])
    refine own_callS X9 hx hZ (y := (⟨"java/lang/StringUTF16", "toBytes", "([CII)[B"⟩ : MethodName)) (W := 0) (kc := 1) (ks := 8) hown (oW hw 80 rfl) (oW hw 81 rfl) (oW hw 34 rfl) (oW hw 82 rfl) (own_back (W := 0) (rm_tb4 l Z a0 hw [] s1 ks ds c0 c1 c2 c3 T9.heap n0 Z9 V9 SA9 SH9 SL9) hZ (oW hw 82 rfl) (oW hw 34 rfl) (by decide) (by decide)) (by decide) (g := (mkF m 23 #[.val (.ref s1), .val (.int 0), .val (.int 4), .val (.ref b1), .val (.int 3), .unset] [(.int 4), (.int 0), (.ref s1)])) rfl (by rw [hml]; rfl) (argsL := [(.ref s1), (.int 0), (.int 4)]) (rest := []) (lenOf pd_10 rfl) rfl (by show 2 * 0 + _ ≤ _; exact Nat.le_of_eq rfl) (hb hby dcm4_23) rfl rfl (by decide) (by decide) (fun v23 T23 L23 X23 hQ23 => ?_)
    obtain ⟨kb, rfl, M23, K23, B23⟩ := hQ23
    have N23 := Fr.app N9 M23
    have KK23 : Keep h0 T23.heap [] := KK9.trans K23 all0
    have Z23 : n0 ≤ T23.heap.size := Nat.le_trans Z9 K23.1
    have SA23 := own_staK0 SA9 K23
    have SH23 := own_staK0 SH9 K23
    have SL23 := own_staK0 SL9 K23
    show oG p e below _ T23 (mkF m 26 #[.val (.ref s1), .val (.int 0), .val (.int 4), .val (.ref b1), .val (.int 3), .unset] [(.ref T9.heap.size)])
    refine oS (fun t k => XS.astore X23.here hx rfl (hb hby dcm4_26) rfl rfl (l' := #[.val (.ref s1), .val (.int 0), .val (.int 4), .val (.ref b1), .val (.int 3), .val (.ref T9.heap.size)]) rfl k) ?_
    show oG p e below _ T23 (mkF m 28 #[.val (.ref s1), .val (.int 0), .val (.int 4), .val (.ref b1), .val (.int 3), .val (.ref T9.heap.size)] [])
    refine oS (fun t k => XS.aload X23.here hx rfl (hb hby dcm4_28) rfl rfl k) ?_
    refine oS (fun t k => XS.iload X23.here hx rfl (hb hby dcm4_30) rfl  k) ?_
    show oG p e below _ T23 (mkF m 32 #[.val (.ref s1), .val (.int 0), .val (.int 4), .val (.ref b1), .val (.int 3), .val (.ref T9.heap.size)] [(.int 3), (.ref T9.heap.size)])
    refine own_callS X23 hx hZ (y := (⟨"java/lang/StringUTF16", "getChar", "([BI)C"⟩ : MethodName)) (W := 0) (kc := 0) (ks := 0) hown (oW hw 96 rfl) (oW hw 97 rfl) (oW hw 34 rfl) (oW hw 98 rfl) (own_back (W := 0) (rm_gc l Z a0 hw [] T9.heap.size 3 kb ([c0, c1, c2, c3] : List Int32) T23.heap n0 Z23 B23 (Nat.le_of_ble_eq_true rfl) hr (Nat.le_of_ble_eq_true rfl) SA23 SH23 SL23) hZ (oW hw 98 rfl) (oW hw 34 rfl) (by decide) (by decide)) (by decide) (g := (mkF m 32 #[.val (.ref s1), .val (.int 0), .val (.int 4), .val (.ref b1), .val (.int 3), .val (.ref T9.heap.size)] [(.int 3), (.ref T9.heap.size)])) rfl (by rw [hml]; rfl) (argsL := [(.ref T9.heap.size), (.int 3)]) (rest := []) (lenOf pd_4 rfl) rfl (by show 2 * 0 + _ ≤ _; exact Nat.le_of_eq rfl) (hb hby dcm4_32) rfl rfl (by decide) (by decide) (fun v32 T32 L32 X32 hQ32 => ?_)
    obtain ⟨rfl, M32, e32⟩ := hQ32
    have N32 := Fr.app N23 M32
    show oG p e below _ T32 (mkF m 35 #[.val (.ref s1), .val (.int 0), .val (.int 4), .val (.ref b1), .val (.int 3), .val (.ref T9.heap.size)] [(.int c3)])
    refine oS (fun t k => XS.sipush X32.here hx rfl (hb hby dcm4_35) k) ?_
    show oG p e below _ T32 (mkF m 38 #[.val (.ref s1), .val (.int 0), .val (.int 4), .val (.ref b1), .val (.int 3), .val (.ref T9.heap.size)] [(.int 255), (.int c3)])
    refine oS (fun t k => XS.icmpYes X32.here hx rfl (pc0 := 38) (pc' := 54) rfl (hb hby dcm4_38) rfl (tlt hk).2.2.1 (by decide) (by decide) k) ?_
    show oG p e below _ T32 (mkF m 54 #[.val (.ref s1), .val (.int 0), .val (.int 4), .val (.ref b1), .val (.int 3), .val (.ref T9.heap.size)] [])
    refine oS (fun t k => XS.aload X32.here hx rfl (hb hby dcm4_54) rfl rfl k) ?_
    show oG p e below _ T32 (mkF m 56 #[.val (.ref s1), .val (.int 0), .val (.int 4), .val (.ref b1), .val (.int 3), .val (.ref T9.heap.size)] [(.ref T9.heap.size)])
    refine own_retA X32 hx hlk hret rfl rfl (hb hby dcm4_56) ?_ (by decide) (by decide)
    rw [e32]
    exact ⟨_, kb, rfl, N32, KK23, Z9, KK9.1, B23⟩
theorem dcf4_0 : decode jdk_52_method_15_code 0 = .ok (.iload_n 1, 1) := by decide +kernel
theorem dcf4_1 : decode jdk_52_method_15_code 1 = .ok (.aload_n 0, 1) := by decide +kernel
theorem dcf4_2 : decode jdk_52_method_15_code 2 = .ok (.arraylength, 1) := by decide +kernel
theorem dcf4_3 : decode jdk_52_method_15_code 3 = .ok (.isub, 1) := by decide +kernel
theorem dcf4_4 : decode jdk_52_method_15_code 4 = .ok (.bipush 31, 2) := by decide +kernel
theorem dcf4_6 : decode jdk_52_method_15_code 6 = .ok (.iushr, 1) := by decide +kernel
theorem dcf4_7 : decode jdk_52_method_15_code 7 = .ok (.i2b, 1) := by decide +kernel
theorem dcf4_8 : decode jdk_52_method_15_code 8 = .ok (.ireturn, 1) := by decide +kernel
theorem efcf4 (m : MethodId) (x0 : Addr) (x1 : Int32) : entryFrame m #[(.ref x0), (.int x1)] 2 = mkF m 0 #[.val (.ref x0), .val (.int x1)] [] := by first | (simp [entryFrame, mkF, argsToLocals, Value.category]; done) | rfl
set_option maxRecDepth 65536 in
set_option maxHeartbeats 40000000 in
theorem rm_cf4 (l : Launch) (Z : State) (a0 : Array Value) (hw : ∀ d ∈ tables_1, d.before a0 Z = true) (ws : List Jvm.Cond) (b1 : Addr) (kb : ClassId) (vs : List Value) (d : Value) (h0 : Heap) (n0 : Nat) (Z0 : n0 ≤ h0.size) (V1 : Arv Z h0 b1 kb .byte (8 : Int32) vs d) :
    own_Met l Z ws (⟨"java/lang/StringUTF16", "coderFromArrayLen", "([BI)B"⟩ : MethodName) jdk_52_method_15_code 2 (some .byte) ({ frames := 0, cells := 0, slots := 0, locals := 0 } : Room) #[(.ref b1), (.int 4)] h0 (fun v h L => v = some (.int 1) ∧ Fr n0 L ∧ h = h0) := by
  refine own_body (plainFor_of_name pn_0) ?_
  intro p e s m below meth c s₁ hx hby hml hret hlk hown hnm hZ X0 e0
  have hml : c.maxLocals = 2 := hml
  have hown : s.vm.findClass "java/lang/StringUTF16" = some m.cls := hown
  have N0 := Fr.nil n0
  refine own_cast (efcf4 m b1 (4 : Int32)) ?_
  show oG p e below _ s₁ (mkF m 0 #[.val (.ref b1), .val (.int 4)] [])
  refine oS (fun t k => XS.iloadN X0.here hx rfl (hb hby dcf4_0) rfl  k) ?_
  refine oS (fun t k => XS.aloadN X0.here hx rfl (hb hby dcf4_1) rfl rfl k) ?_
  show oG p e below _ s₁ (mkF m 2 #[.val (.ref b1), .val (.int 4)] [(.ref b1), (.int 4)])
  obtain ⟨cl2, Ar2, -, S2, M2, -, -⟩ := id V1
  refine oS (X0.arraylength hx (by rw [e0]; exact Ar2.1) (State.isArrayOf_alike hZ.alike Ar2.2.1) (g := (mkF m 2 #[.val (.ref b1), .val (.int 4)] [(.ref b1), (.int 4)])) rfl rfl (hb hby dcf4_2)) ?_
  rw [len_of S2 M2]
  show oG p e below _ s₁ (mkF m 3 #[.val (.ref b1), .val (.int 4)] [(.int 8), (.int 4)])
  refine oS (fun t k => XS.isub X0.here hx rfl (hb hby dcf4_3) rfl k) ?_
  show oG p e below _ s₁ (mkF m 4 #[.val (.ref b1), .val (.int 4)] [(.int ((4 : Int32) - (8 : Int32)))])
  refine oS (fun t k => XS.bipush X0.here hx rfl (hb hby dcf4_4) k) ?_
  refine oS (fun t k => XS.iushr X0.here hx rfl (hb hby dcf4_6) rfl k) ?_
  show oG p e below _ s₁ (mkF m 7 #[.val (.ref b1), .val (.int 4)] [(.int ((((4 : Int32) - (8 : Int32)).toUInt32 >>> ((31 : Int32) &&& 31).toUInt32).toInt32))])
  refine oS (fun t k => XS.i2b X0.here hx rfl (hb hby dcf4_7) rfl k) ?_
  show oG p e below _ s₁ (mkF m 8 #[.val (.ref b1), .val (.int 4)] [(.int (((((4 : Int32) - (8 : Int32)).toUInt32 >>> ((31 : Int32) &&& 31).toUInt32).toInt32).toInt8.toInt32))])
  rw [(by decide : (((((4 : Int32) - (8 : Int32)).toUInt32 >>> ((31 : Int32) &&& 31).toUInt32).toInt32).toInt8.toInt32) = (1 : Int32))]
  show oG p e below _ s₁ (mkF m 8 #[.val (.ref b1), .val (.int 4)] [(.int 1)])
  refine own_retN (t := .byte) X0 hx hlk hret (by simp) (hb hby dcf4_8) ?_ (by decide) (by decide)
  rw [e0]
  exact ⟨rfl, N0, rfl⟩
theorem own_big4 {c0 c1 c2 c3 : Int32} (h : 255 < c0 ∨ 255 < c1 ∨ 255 < c2 ∨ 255 < c3) : ∃ c ∈ ([c0, c1, c2, c3] : List Int32), 255 < c := by
  simp only [List.mem_cons, List.not_mem_nil, or_false]
  rcases h with h | h | h | h
  · exact ⟨c0, Or.inl rfl, h⟩
  · exact ⟨c1, Or.inr (Or.inl rfl), h⟩
  · exact ⟨c2, Or.inr (Or.inr (Or.inl rfl)), h⟩
  · exact ⟨c3, Or.inr (Or.inr (Or.inr (rfl))), h⟩
theorem dsv4_0 : decode jdk_42_method_149_code 0 = .ok (.aload_n 0, 1) := by decide +kernel
theorem dsv4_1 : decode jdk_42_method_149_code 1 = .ok (.invokespecial 1, 3) := by decide +kernel
theorem dsv4_4 : decode jdk_42_method_149_code 4 = .ok (.iload_n 3, 1) := by decide +kernel
theorem dsv4_5 : decode jdk_42_method_149_code 5 = .ok (.ifCond .ne 22, 3) := by decide +kernel
theorem dsv4_8 : decode jdk_42_method_149_code 8 = .ok (.aload_n 0, 1) := by decide +kernel
theorem dsv4_9 : decode jdk_42_method_149_code 9 = .ok (.ldc 7, 2) := by decide +kernel
theorem dsv4_11 : decode jdk_42_method_149_code 11 = .ok (.getfield 9, 3) := by decide +kernel
theorem dsv4_14 : decode jdk_42_method_149_code 14 = .ok (.putfield 9, 3) := by decide +kernel
theorem dsv4_17 : decode jdk_42_method_149_code 17 = .ok (.aload_n 0, 1) := by decide +kernel
theorem dsv4_18 : decode jdk_42_method_149_code 18 = .ok (.ldc 7, 2) := by decide +kernel
theorem dsv4_20 : decode jdk_42_method_149_code 20 = .ok (.getfield 15, 3) := by decide +kernel
theorem dsv4_23 : decode jdk_42_method_149_code 23 = .ok (.putfield 15, 3) := by decide +kernel
theorem dsv4_26 : decode jdk_42_method_149_code 26 = .ok (.return_, 1) := by decide +kernel
theorem dsv4_27 : decode jdk_42_method_149_code 27 = .ok (.getstatic 38, 3) := by decide +kernel
theorem dsv4_30 : decode jdk_42_method_149_code 30 = .ok (.ifCond .eq 28, 3) := by decide +kernel
theorem dsv4_33 : decode jdk_42_method_149_code 33 = .ok (.aload_n 1, 1) := by decide +kernel
theorem dsv4_34 : decode jdk_42_method_149_code 34 = .ok (.iload_n 2, 1) := by decide +kernel
theorem dsv4_35 : decode jdk_42_method_149_code 35 = .ok (.iload_n 3, 1) := by decide +kernel
theorem dsv4_36 : decode jdk_42_method_149_code 36 = .ok (.invokestatic 177, 3) := by decide +kernel
theorem dsv4_39 : decode jdk_42_method_149_code 39 = .ok (.astore 5, 2) := by decide +kernel
theorem dsv4_41 : decode jdk_42_method_149_code 41 = .ok (.aload_n 0, 1) := by decide +kernel
theorem dsv4_42 : decode jdk_42_method_149_code 42 = .ok (.aload 5, 2) := by decide +kernel
theorem dsv4_44 : decode jdk_42_method_149_code 44 = .ok (.iload_n 3, 1) := by decide +kernel
theorem dsv4_45 : decode jdk_42_method_149_code 45 = .ok (.invokestatic 47, 3) := by decide +kernel
theorem dsv4_48 : decode jdk_42_method_149_code 48 = .ok (.putfield 15, 3) := by decide +kernel
theorem dsv4_51 : decode jdk_42_method_149_code 51 = .ok (.aload_n 0, 1) := by decide +kernel
theorem dsv4_52 : decode jdk_42_method_149_code 52 = .ok (.aload 5, 2) := by decide +kernel
theorem dsv4_54 : decode jdk_42_method_149_code 54 = .ok (.putfield 9, 3) := by decide +kernel
theorem dsv4_57 : decode jdk_42_method_149_code 57 = .ok (.return_, 1) := by decide +kernel
theorem dsv4_58 : decode jdk_42_method_149_code 58 = .ok (.aload_n 0, 1) := by decide +kernel
theorem dsv4_59 : decode jdk_42_method_149_code 59 = .ok (.iconst 1, 1) := by decide +kernel
theorem dsv4_60 : decode jdk_42_method_149_code 60 = .ok (.putfield 15, 3) := by decide +kernel
theorem dsv4_63 : decode jdk_42_method_149_code 63 = .ok (.aload_n 0, 1) := by decide +kernel
theorem dsv4_64 : decode jdk_42_method_149_code 64 = .ok (.aload_n 1, 1) := by decide +kernel
theorem dsv4_65 : decode jdk_42_method_149_code 65 = .ok (.iload_n 2, 1) := by decide +kernel
theorem dsv4_66 : decode jdk_42_method_149_code 66 = .ok (.iload_n 3, 1) := by decide +kernel
theorem dsv4_67 : decode jdk_42_method_149_code 67 = .ok (.invokestatic 180, 3) := by decide +kernel
theorem dsv4_70 : decode jdk_42_method_149_code 70 = .ok (.putfield 9, 3) := by decide +kernel
theorem dsv4_73 : decode jdk_42_method_149_code 73 = .ok (.return_, 1) := by decide +kernel
theorem efsv4 (m : MethodId) (x0 : Addr) (x1 : Addr) (x2 : Int32) (x3 : Int32) : entryFrame m #[(.ref x0), (.ref x1), (.int x2), (.int x3), .null] 6 = mkF m 0 #[.val (.ref x0), .val (.ref x1), .val (.int x2), .val (.int x3), .val .null, .unset] [] := by first | (simp [entryFrame, mkF, argsToLocals, Value.category]; done) | rfl
set_option maxRecDepth 65536 in
set_option maxHeartbeats 40000000 in
theorem rm_sv4 (l : Launch) (Z : State) (a0 : Array Value) (hw : ∀ d ∈ tables_1, d.before a0 Z = true) (ws : List Jvm.Cond) (x1 : Addr) (s1 : Addr) (ks : ClassId) (ds : Value) (v0 : Value) (c0v : Value) (CS : Int32) (c0 : Int32) (c1 : Int32) (c2 : Int32) (c3 : Int32) (h0 : Heap) (n0 : Nat) (Z0 : n0 ≤ h0.size) (E1 : Exa Z h0 x1 "java/lang/String") (F1 : Fld Z h0 x1 "java/lang/String" "value" "[B" v0) (C1 : Fld Z h0 x1 "java/lang/String" "coder" "B" c0v) (gx : n0 ≤ x1) (V1 : Arv Z h0 s1 ks .char (4 : Int32) (([c0, c1, c2, c3] : List Int32).map Value.int) ds) (hbig : 255 < c0 ∨ 255 < c1 ∨ 255 < c2 ∨ 255 < c3) (hr : ∀ c ∈ ([c0, c1, c2, c3] : List Int32), ¬ c < 0 ∧ ¬ (65535 : Int32) < c) (SA : Sta Z h0 "java/lang/StringUTF16" "$assertionsDisabled" "Z" (.int 1)) (SH : Sta Z h0 "java/lang/StringUTF16" "HI_BYTE_SHIFT" "I" (.int 0)) (SL : Sta Z h0 "java/lang/StringUTF16" "LO_BYTE_SHIFT" "I" (.int 8)) (SC : Sta Z h0 "java/lang/String" "COMPACT_STRINGS" "Z" (.int CS)) (hCS : ¬ CS = 0) :
    own_Met l Z ws (⟨"java/lang/String", "<init>", "([CIILjava/lang/Void;)V"⟩ : MethodName) jdk_42_method_149_code 6 none ({ frames := 4, cells := 2, slots := 12, locals := 70 } : Room) #[(.ref x1), (.ref s1), (.int 0), (.int 4), .null] h0 (own_QS Z x1 ([c0, c1, c2, c3] : List Int32) h0 n0) := by
  refine own_body (plainFor_of_name pn_2) ?_
  intro p e s m below meth c s₁ hx hby hml hret hlk hown hnm hZ X0 e0
  have hml : c.maxLocals = 6 := hml
  have hown : s.vm.findClass "java/lang/String" = some m.cls := hown
  have N0 := Fr.nil n0
  refine own_cast (efsv4 m x1 s1 (0 : Int32) (4 : Int32)) ?_
  show oG p e below _ s₁ (mkF m 0 #[.val (.ref x1), .val (.ref s1), .val (.int 0), .val (.int 4), .val .null, .unset] [])
  refine oS (fun t k => XS.aloadN X0.here hx rfl (hb hby dsv4_0) rfl rfl k) ?_
  show oG p e below _ s₁ (mkF m 1 #[.val (.ref x1), .val (.ref s1), .val (.int 0), .val (.int 4), .val .null, .unset] [(.ref x1)])
  obtain ⟨T1, X1, e1, st1⟩ := initO X0 hx hZ hown (oW hw 11 rfl) (oW hw 12 rfl) (oW hw 13 rfl) e0 (g := (mkF m 1 #[.val (.ref x1), .val (.ref s1), .val (.int 0), .val (.int 4), .val .null, .unset] [(.ref x1)])) rfl (by rw [hml]; rfl) rfl (hb hby dsv4_1) (by decide) (W := 0) (by show 2 * 0 + _ ≤ _; exact Nat.le_of_eq rfl) (by decide)
  refine oS st1 ?_
  show oG p e below _ T1 (mkF m 4 #[.val (.ref x1), .val (.ref s1), .val (.int 0), .val (.int 4), .val .null, .unset] [])
  refine oS (fun t k => XS.iloadN X1.here hx rfl (hb hby dsv4_4) rfl  k) ?_
  show oG p e below _ T1 (mkF m 5 #[.val (.ref x1), .val (.ref s1), .val (.int 0), .val (.int 4), .val .null, .unset] [(.int 4)])
  refine oS (fun t k => XS.ifYes X1.here hx rfl (pc0 := 5) (pc' := 27) rfl (hb hby dsv4_5) rfl ((if0 _ _).trans (feq (by decide : ¬ (4 : Int32) = 0)).2) (by decide) (by decide) k) ?_
  show oG p e below _ T1 (mkF m 27 #[.val (.ref x1), .val (.ref s1), .val (.int 0), .val (.int 4), .val .null, .unset] [])
  obtain ⟨T27, X27, e27, st27⟩ := getS2 X1 hx hZ hown (host := "") (Or.inl (oW hw 31 rfl)) Via.refl e1 SC (g := (mkF m 27 #[.val (.ref x1), .val (.ref s1), .val (.int 0), .val (.int 4), .val .null, .unset] [])) rfl (hb hby dsv4_27)
  refine oS st27 ?_
  show oG p e below _ T27 (mkF m 30 #[.val (.ref x1), .val (.ref s1), .val (.int 0), .val (.int 4), .val .null, .unset] [(.int CS)])
  refine oS (fun t k => XS.ifNo X27.here hx rfl (hb hby dsv4_30) rfl ((if0 _ _).trans (feq hCS).1) k) ?_
  show oG p e below _ T27 (mkF m 33 #[.val (.ref x1), .val (.ref s1), .val (.int 0), .val (.int 4), .val .null, .unset] [])
  refine oS (fun t k => XS.aloadN X27.here hx rfl (hb hby dsv4_33) rfl rfl k) ?_
  refine oS (fun t k => XS.iloadN X27.here hx rfl (hb hby dsv4_34) rfl  k) ?_
  refine oS (fun t k => XS.iloadN X27.here hx rfl (hb hby dsv4_35) rfl  k) ?_
  show oG p e below _ T27 (mkF m 36 #[.val (.ref x1), .val (.ref s1), .val (.int 0), .val (.int 4), .val .null, .unset] [(.int 4), (.int 0), (.ref s1)])
  refine own_callS X27 hx hZ (y := (⟨"java/lang/StringUTF16", "compress", "([CII)[B"⟩ : MethodName)) (W := 0) (kc := 2) (ks := 12) hown (oW hw 32 rfl) (oW hw 33 rfl) (oW hw 34 rfl) (oW hw 35 rfl) (own_back (W := 0) (rm_cm4 l Z a0 hw [] s1 ks ds c0 c1 c2 c3 h0 n0 Z0 V1 hbig hr SA SH SL) hZ (oW hw 35 rfl) (oW hw 34 rfl) (by decide) (by decide)) (by decide) (g := (mkF m 36 #[.val (.ref x1), .val (.ref s1), .val (.int 0), .val (.int 4), .val .null, .unset] [(.int 4), (.int 0), (.ref s1)])) rfl (by rw [hml]; rfl) (argsL := [(.ref s1), (.int 0), (.int 4)]) (rest := []) (lenOf pd_10 rfl) rfl (by show 2 * 0 + _ ≤ _; exact Nat.le_of_eq rfl) (hb hby dsv4_36) rfl e27 (by decide) (by decide) (fun v36 T36 L36 X36 hQ36 => ?_)
  obtain ⟨b, kb, rfl, M36, K36, gb, zb, B36⟩ := hQ36
  have N36 := Fr.app N0 M36
  have Z36 : n0 ≤ T36.heap.size := Nat.le_trans Z0 K36.1
  have E36 := E1.keep K36
  have F36 := F1.keep K36 nin0
  have C36 := C1.keep K36 nin0
  have nb : b ≠ x1 := Nat.ne_of_gt (Nat.lt_of_lt_of_le E1.lt zb)
  show oG p e below _ T36 (mkF m 39 #[.val (.ref x1), .val (.ref s1), .val (.int 0), .val (.int 4), .val .null, .unset] [(.ref b)])
  refine oS (fun t k => XS.astore X36.here hx rfl (hb hby dsv4_39) rfl rfl (l' := #[.val (.ref x1), .val (.ref s1), .val (.int 0), .val (.int 4), .val .null, .val (.ref b)]) rfl k) ?_
  show oG p e below _ T36 (mkF m 41 #[.val (.ref x1), .val (.ref s1), .val (.int 0), .val (.int 4), .val .null, .val (.ref b)] [])
  refine oS (fun t k => XS.aloadN X36.here hx rfl (hb hby dsv4_41) rfl rfl k) ?_
  refine oS (fun t k => XS.aload X36.here hx rfl (hb hby dsv4_42) rfl rfl k) ?_
  refine oS (fun t k => XS.iloadN X36.here hx rfl (hb hby dsv4_44) rfl  k) ?_
  show oG p e below _ T36 (mkF m 45 #[.val (.ref x1), .val (.ref s1), .val (.int 0), .val (.int 4), .val .null, .val (.ref b)] [(.int 4), (.ref b), (.ref x1)])
  refine own_callS X36 hx hZ (y := (⟨"java/lang/StringUTF16", "coderFromArrayLen", "([BI)B"⟩ : MethodName)) (W := 1) (kc := 0) (ks := 0) hown (oW hw 39 rfl) (oW hw 40 rfl) (oW hw 34 rfl) (oW hw 41 rfl) (own_back (W := 1) (rm_cf4 l Z a0 hw [] b kb _ _ T36.heap n0 Z36 B36) hZ (oW hw 41 rfl) (oW hw 34 rfl) (by decide) (by decide)) (by decide) (g := (mkF m 45 #[.val (.ref x1), .val (.ref s1), .val (.int 0), .val (.int 4), .val .null, .val (.ref b)] [(.int 4), (.ref b), (.ref x1)])) rfl (by rw [hml]; rfl) (argsL := [(.ref b), (.int 4)]) (rest := [(.ref x1)]) (lenOf pd_11 rfl) rfl (by show 2 * 0 + _ ≤ _; exact Nat.le_of_eq rfl) (hb hby dsv4_45) rfl rfl (by decide) (by decide) (fun v45 T45 L45 X45 hQ45 => ?_)
  obtain ⟨rfl, M45, e45⟩ := hQ45
  have N45 := Fr.app N36 M45
  show oG p e below _ T45 (mkF m 48 #[.val (.ref x1), .val (.ref s1), .val (.int 0), .val (.int 4), .val .null, .val (.ref b)] [(.int 1), (.ref x1)])
  obtain ⟨T48, h48, X48, e48, W48, st48⟩ := putFN X45 hx hZ hown (oW hw 21 rfl) Via.refl e45 C36 E36 (Or.inr ⟨(oW hw 17 rfl), rfl, hnm⟩) (oW hw 1 rfl) (ty := .byte) (v' := (.int 1)) (by decide) rfl rfl (g := (mkF m 48 #[.val (.ref x1), .val (.ref s1), .val (.int 0), .val (.int 4), .val .null, .val (.ref b)] [(.int 1), (.ref x1)])) rfl rfl (hb hby dsv4_48)
  refine oS st48 ?_
  have N48 := Fr.snoc X48 N45 gx
  have E48_o := E36.wr W48
  have F48_value := F36.other W48 (Or.inr (slot_ne (Or.inr (oW hw 16 rfl)) (Or.inr (oW hw 17 rfl)) (by decide) (t := (.array .byte)) (t' := .byte) (by decide) (by decide)))
  have F48_coder := C36.same W48
  show oG p e below _ T48 (mkF m 51 #[.val (.ref x1), .val (.ref s1), .val (.int 0), .val (.int 4), .val .null, .val (.ref b)] [])
  have B48 := B36.other W48 nb
  refine oS (fun t k => XS.aloadN X48.here hx rfl (hb hby dsv4_51) rfl rfl k) ?_
  refine oS (fun t k => XS.aload X48.here hx rfl (hb hby dsv4_52) rfl rfl k) ?_
  show oG p e below _ T48 (mkF m 54 #[.val (.ref x1), .val (.ref s1), .val (.int 0), .val (.int 4), .val .null, .val (.ref b)] [(.ref b), (.ref x1)])
  obtain ⟨T54, h54, X54, e54, W54, st54⟩ := putF X48 hx hZ hown (host := "") (Or.inl (oW hw 20 rfl)) Via.refl e48 F48_value E48_o (Or.inr ⟨(oW hw 16 rfl), rfl, hnm⟩) (oW hw 1 rfl) (ty := (.array .byte)) (by decide) rfl rfl (g := (mkF m 54 #[.val (.ref x1), .val (.ref s1), .val (.int 0), .val (.int 4), .val .null, .val (.ref b)] [(.ref b), (.ref x1)])) rfl rfl (hb hby dsv4_54)
  refine oS st54 ?_
  have N54 := Fr.snoc X54 N48 gx
  have E54_o := E48_o.wr W54
  have F54_value := F48_value.same W54
  have F54_coder := F48_coder.other W54 (Or.inr (slot_ne (Or.inr (oW hw 17 rfl)) (Or.inr (oW hw 16 rfl)) (by decide) (t := .byte) (t' := (.array .byte)) (by decide) (by decide)))
  show oG p e below _ T54 (mkF m 57 #[.val (.ref x1), .val (.ref s1), .val (.int 0), .val (.int 4), .val .null, .val (.ref b)] [])
  have B54 := B48.other W54 nb
  refine own_retV X54 hx hlk hret (hb hby dsv4_57) ?_ (by decide) (by decide)
  rw [e54]
  exact ⟨rfl, N54, (((Keep.refl h0 [x1]).trans K36 all0).wr W48 (Or.inl (List.mem_of_getElem? (i := 0) rfl))).wr W54 (Or.inl (List.mem_of_getElem? (i := 0) rfl)), b, kb, 1, (8 : Int32), _, E54_o, F54_value, F54_coder, B54, Or.inr ⟨rfl, rfl, rfl, own_big4 hbig⟩⟩
theorem dsn4_0 : decode jdk_42_method_3_code 0 = .ok (.aload_n 0, 1) := by decide +kernel
theorem dsn4_1 : decode jdk_42_method_3_code 1 = .ok (.aload_n 1, 1) := by decide +kernel
theorem dsn4_2 : decode jdk_42_method_3_code 2 = .ok (.iconst 0, 1) := by decide +kernel
theorem dsn4_3 : decode jdk_42_method_3_code 3 = .ok (.aload_n 1, 1) := by decide +kernel
theorem dsn4_4 : decode jdk_42_method_3_code 4 = .ok (.arraylength, 1) := by decide +kernel
theorem dsn4_5 : decode jdk_42_method_3_code 5 = .ok (.aconst_null, 1) := by decide +kernel
theorem dsn4_6 : decode jdk_42_method_3_code 6 = .ok (.invokespecial 27, 3) := by decide +kernel
theorem dsn4_9 : decode jdk_42_method_3_code 9 = .ok (.return_, 1) := by decide +kernel
theorem efsn4 (m : MethodId) (x0 : Addr) (x1 : Addr) : entryFrame m #[(.ref x0), (.ref x1)] 2 = mkF m 0 #[.val (.ref x0), .val (.ref x1)] [] := by first | (simp [entryFrame, mkF, argsToLocals, Value.category]; done) | rfl
set_option maxRecDepth 65536 in
set_option maxHeartbeats 40000000 in
theorem rm_s4 (l : Launch) (Z : State) (a0 : Array Value) (hw : ∀ d ∈ tables_1, d.before a0 Z = true) (ws : List Jvm.Cond) (x1 : Addr) (s1 : Addr) (ks : ClassId) (ds : Value) (v0 : Value) (c0v : Value) (CS : Int32) (c0 : Int32) (c1 : Int32) (c2 : Int32) (c3 : Int32) (h0 : Heap) (n0 : Nat) (Z0 : n0 ≤ h0.size) (E1 : Exa Z h0 x1 "java/lang/String") (F1 : Fld Z h0 x1 "java/lang/String" "value" "[B" v0) (C1 : Fld Z h0 x1 "java/lang/String" "coder" "B" c0v) (gx : n0 ≤ x1) (V1 : Arv Z h0 s1 ks .char (4 : Int32) (([c0, c1, c2, c3] : List Int32).map Value.int) ds) (hbig : 255 < c0 ∨ 255 < c1 ∨ 255 < c2 ∨ 255 < c3) (hr : ∀ c ∈ ([c0, c1, c2, c3] : List Int32), ¬ c < 0 ∧ ¬ (65535 : Int32) < c) (SA : Sta Z h0 "java/lang/StringUTF16" "$assertionsDisabled" "Z" (.int 1)) (SH : Sta Z h0 "java/lang/StringUTF16" "HI_BYTE_SHIFT" "I" (.int 0)) (SL : Sta Z h0 "java/lang/StringUTF16" "LO_BYTE_SHIFT" "I" (.int 8)) (SC : Sta Z h0 "java/lang/String" "COMPACT_STRINGS" "Z" (.int CS)) (hCS : ¬ CS = 0) :
    own_Met l Z ws (⟨"java/lang/String", "<init>", "([C)V"⟩ : MethodName) jdk_42_method_3_code 2 none ({ frames := 5, cells := 2, slots := 12, locals := 90 } : Room) #[(.ref x1), (.ref s1)] h0 (own_QS Z x1 ([c0, c1, c2, c3] : List Int32) h0 n0) := by
  refine own_body (plainFor_of_name pn_2) ?_
  intro p e s m below meth c s₁ hx hby hml hret hlk hown hnm hZ X0 e0
  have hml : c.maxLocals = 2 := hml
  have hown : s.vm.findClass "java/lang/String" = some m.cls := hown
  have N0 := Fr.nil n0
  refine own_cast (efsn4 m x1 s1) ?_
  show oG p e below _ s₁ (mkF m 0 #[.val (.ref x1), .val (.ref s1)] [])
  refine oS (fun t k => XS.aloadN X0.here hx rfl (hb hby dsn4_0) rfl rfl k) ?_
  refine oS (fun t k => XS.aloadN X0.here hx rfl (hb hby dsn4_1) rfl rfl k) ?_
  refine oS (fun t k => XS.iconst X0.here hx rfl (hb hby dsn4_2) k) ?_
  refine oS (fun t k => XS.aloadN X0.here hx rfl (hb hby dsn4_3) rfl rfl k) ?_
  show oG p e below _ s₁ (mkF m 4 #[.val (.ref x1), .val (.ref s1)] [(.ref s1), (.int 0), (.ref s1), (.ref x1)])
  obtain ⟨cl4, Ar4, -, S4, M4, -, -⟩ := id V1
  refine oS (X0.arraylength hx (by rw [e0]; exact Ar4.1) (State.isArrayOf_alike hZ.alike Ar4.2.1) (g := (mkF m 4 #[.val (.ref x1), .val (.ref s1)] [(.ref s1), (.int 0), (.ref s1), (.ref x1)])) rfl rfl (hb hby dsn4_4)) ?_
  rw [len_of S4 M4]
  show oG p e below _ s₁ (mkF m 5 #[.val (.ref x1), .val (.ref s1)] [(.int 4), (.int 0), (.ref s1), (.ref x1)])
  refine oS (fun t k => XS.aconstNull X0.here hx rfl (hb hby dsn4_5) k) ?_
  show oG p e below _ s₁ (mkF m 6 #[.val (.ref x1), .val (.ref s1)] [.null, (.int 4), (.int 0), (.ref s1), (.ref x1)])
  refine own_callI X0 hx hZ (y := (⟨"java/lang/String", "<init>", "([CIILjava/lang/Void;)V"⟩ : MethodName)) (W := 0) (kc := 2) (ks := 12) rfl hown (oW hw 7 rfl) (oW hw 8 rfl) (oW hw 10 rfl) (own_back (W := 0) (rm_sv4 l Z a0 hw [] x1 s1 ks ds v0 c0v CS c0 c1 c2 c3 h0 n0 Z0 E1 F1 C1 gx V1 hbig hr SA SH SL SC hCS) hZ (oW hw 10 rfl) (oW hw 2 rfl) (by decide) (by decide)) (by decide) (g := (mkF m 6 #[.val (.ref x1), .val (.ref s1)] [.null, (.int 4), (.int 0), (.ref s1), (.ref x1)])) rfl (by rw [hml]; rfl) (a := x1) (argsL := [(.ref s1), (.int 0), (.int 4), .null]) (rest := []) (lenOf pd_12 rfl) rfl (by show 2 * 0 + _ ≤ _; exact Nat.le_of_eq rfl) (hb hby dsn4_6) rfl e0 (by decide) (by decide) (fun v6 T6 L6 X6 hQ6 => ?_)
  obtain ⟨rfl, M6, K6, S6⟩ := hQ6
  show oG p e below _ T6 (mkF m 9 #[.val (.ref x1), .val (.ref s1)] [])
  refine own_retV X6 hx hlk hret (hb hby dsn4_9) ?_ (by decide) (by decide)
  exact ⟨rfl, Fr.app N0 M6, K6, S6⟩
theorem dok_0 : decode method_2_code 0 = .ok (.iload_n 0, 1) := by decide +kernel
theorem dok_1 : decode method_2_code 1 = .ok (.bipush 97, 2) := by decide +kernel
theorem dok_3 : decode method_2_code 3 = .ok (.if_icmp .lt 11, 3) := by decide +kernel
theorem dok_6 : decode method_2_code 6 = .ok (.iload_n 0, 1) := by decide +kernel
theorem dok_7 : decode method_2_code 7 = .ok (.bipush 122, 2) := by decide +kernel
theorem dok_9 : decode method_2_code 9 = .ok (.if_icmp .gt 5, 3) := by decide +kernel
theorem dok_12 : decode method_2_code 12 = .ok (.iconst 1, 1) := by decide +kernel
theorem dok_13 : decode method_2_code 13 = .ok (.ireturn, 1) := by decide +kernel
theorem dok_14 : decode method_2_code 14 = .ok (.iload_n 0, 1) := by decide +kernel
theorem dok_15 : decode method_2_code 15 = .ok (.bipush 65, 2) := by decide +kernel
theorem dok_17 : decode method_2_code 17 = .ok (.if_icmp .lt 11, 3) := by decide +kernel
theorem dok_20 : decode method_2_code 20 = .ok (.iload_n 0, 1) := by decide +kernel
theorem dok_21 : decode method_2_code 21 = .ok (.bipush 90, 2) := by decide +kernel
theorem dok_23 : decode method_2_code 23 = .ok (.if_icmp .gt 5, 3) := by decide +kernel
theorem dok_26 : decode method_2_code 26 = .ok (.iconst 1, 1) := by decide +kernel
theorem dok_27 : decode method_2_code 27 = .ok (.ireturn, 1) := by decide +kernel
theorem dok_28 : decode method_2_code 28 = .ok (.iload_n 0, 1) := by decide +kernel
theorem dok_29 : decode method_2_code 29 = .ok (.bipush 48, 2) := by decide +kernel
theorem dok_31 : decode method_2_code 31 = .ok (.if_icmp .lt 11, 3) := by decide +kernel
theorem dok_34 : decode method_2_code 34 = .ok (.iload_n 0, 1) := by decide +kernel
theorem dok_35 : decode method_2_code 35 = .ok (.bipush 57, 2) := by decide +kernel
theorem dok_37 : decode method_2_code 37 = .ok (.if_icmp .gt 5, 3) := by decide +kernel
theorem dok_40 : decode method_2_code 40 = .ok (.iconst 1, 1) := by decide +kernel
theorem dok_41 : decode method_2_code 41 = .ok (.ireturn, 1) := by decide +kernel
theorem dok_42 : decode method_2_code 42 = .ok (.iload_n 0, 1) := by decide +kernel
theorem dok_43 : decode method_2_code 43 = .ok (.bipush 95, 2) := by decide +kernel
theorem dok_45 : decode method_2_code 45 = .ok (.if_icmp .eq 9, 3) := by decide +kernel
theorem dok_48 : decode method_2_code 48 = .ok (.iload_n 0, 1) := by decide +kernel
theorem dok_49 : decode method_2_code 49 = .ok (.bipush 45, 2) := by decide +kernel
theorem dok_51 : decode method_2_code 51 = .ok (.if_icmp .ne 7, 3) := by decide +kernel
theorem dok_54 : decode method_2_code 54 = .ok (.iconst 1, 1) := by decide +kernel
theorem dok_55 : decode method_2_code 55 = .ok (.goto 4, 3) := by decide +kernel
theorem dok_58 : decode method_2_code 58 = .ok (.iconst 0, 1) := by decide +kernel
theorem dok_59 : decode method_2_code 59 = .ok (.ireturn, 1) := by decide +kernel
theorem pn_3 : plainName "com/example/loqix/loqix/TopicNameIsValidPinLaw" = true := by first | (simp [plainName, overriddenIn]; done) | decide +kernel
theorem efok (m : MethodId) (x0 : Int32) : entryFrame m #[(.int x0)] 1 = mkF m 0 #[.val (.int x0)] [] := by first | (simp [entryFrame, mkF, argsToLocals, Value.category]; done) | rfl
set_option maxRecDepth 65536 in
set_option maxHeartbeats 40000000 in
theorem rm_ok (l : Launch) (Z : State) (a0 : Array Value) (hw : ∀ d ∈ tables_1, d.before a0 Z = true) (ws : List Jvm.Cond) (c1 : Int32) (h0 : Heap) (n0 : Nat) (Z0 : n0 ≤ h0.size) :
    own_Met l Z ws (⟨"com/example/loqix/loqix/TopicNameIsValidPinLaw", "ok", "(C)Z"⟩ : MethodName) method_2_code 1 (some .boolean) ({ frames := 0, cells := 0, slots := 0, locals := 0 } : Room) #[(.int c1)] h0 (fun v h L => v = some (.int (own_okv c1)) ∧ Fr n0 L ∧ h = h0) := by
  refine own_body (plainFor_of_name pn_3) ?_
  intro p e s m below meth c s₁ hx hby hml hret hlk hown hnm hZ X0 e0
  have hml : c.maxLocals = 1 := hml
  have hown : s.vm.findClass "com/example/loqix/loqix/TopicNameIsValidPinLaw" = some m.cls := hown
  have N0 := Fr.nil n0
  refine own_cast (efok m c1) ?_
  show oG p e below _ s₁ (mkF m 0 #[.val (.int c1)] [])
  refine oS (fun t k => XS.iloadN X0.here hx rfl (hb hby dok_0) rfl  k) ?_
  refine oS (fun t k => XS.bipush X0.here hx rfl (hb hby dok_1) k) ?_
  show oG p e below _ s₁ (mkF m 3 #[.val (.int c1)] [(.int 97), (.int c1)])
  rcases own_cls c1 with ⟨u1, u2⟩ | ⟨u1, u2, u3, u4, u5, u6, u7, u8⟩ | ⟨u1, u2, u3, u4, u5, u6, u7⟩ | rfl | ⟨u1, u2, u3⟩ | ⟨u1, u2, u3, u4, u5, u6⟩ | ⟨u1, u2, u3, u4⟩ | ⟨u1, u2, u3, u4, u5⟩ | rfl
  · refine oS (fun t k => XS.icmpNo X0.here hx rfl (hb hby dok_3) rfl (flt u1).1 k) ?_
    show oG p e below _ s₁ (mkF m 6 #[.val (.int c1)] [])
    refine oS (fun t k => XS.iloadN X0.here hx rfl (hb hby dok_6) rfl  k) ?_
    refine oS (fun t k => XS.bipush X0.here hx rfl (hb hby dok_7) k) ?_
    show oG p e below _ s₁ (mkF m 9 #[.val (.int c1)] [(.int 122), (.int c1)])
    refine oS (fun t k => XS.icmpNo X0.here hx rfl (hb hby dok_9) rfl (flt u2).2.2.1 k) ?_
    show oG p e below _ s₁ (mkF m 12 #[.val (.int c1)] [])
    refine oS (fun t k => XS.iconst X0.here hx rfl (hb hby dok_12) k) ?_
    show oG p e below _ s₁ (mkF m 13 #[.val (.int c1)] [(.int 1)])
    refine own_retN (t := .boolean) X0 hx hlk hret (by simp) (hb hby dok_13) ?_ (by decide) (by decide)
    rw [e0]
    exact ⟨by rw [own_okv, if_pos (own_ok1 ⟨u1, u2⟩) ]; rfl, N0, rfl⟩
  · refine oS (fun t k => XS.icmpNo X0.here hx rfl (hb hby dok_3) rfl (flt u1).1 k) ?_
    show oG p e below _ s₁ (mkF m 6 #[.val (.int c1)] [])
    refine oS (fun t k => XS.iloadN X0.here hx rfl (hb hby dok_6) rfl  k) ?_
    refine oS (fun t k => XS.bipush X0.here hx rfl (hb hby dok_7) k) ?_
    show oG p e below _ s₁ (mkF m 9 #[.val (.int c1)] [(.int 122), (.int c1)])
    refine oS (fun t k => XS.icmpYes X0.here hx rfl (pc0 := 9) (pc' := 14) rfl (hb hby dok_9) rfl (tlt u2).2.2.1 (by decide) (by decide) k) ?_
    show oG p e below _ s₁ (mkF m 14 #[.val (.int c1)] [])
    refine oS (fun t k => XS.iloadN X0.here hx rfl (hb hby dok_14) rfl  k) ?_
    refine oS (fun t k => XS.bipush X0.here hx rfl (hb hby dok_15) k) ?_
    show oG p e below _ s₁ (mkF m 17 #[.val (.int c1)] [(.int 65), (.int c1)])
    refine oS (fun t k => XS.icmpNo X0.here hx rfl (hb hby dok_17) rfl (flt u3).1 k) ?_
    show oG p e below _ s₁ (mkF m 20 #[.val (.int c1)] [])
    refine oS (fun t k => XS.iloadN X0.here hx rfl (hb hby dok_20) rfl  k) ?_
    refine oS (fun t k => XS.bipush X0.here hx rfl (hb hby dok_21) k) ?_
    show oG p e below _ s₁ (mkF m 23 #[.val (.int c1)] [(.int 90), (.int c1)])
    refine oS (fun t k => XS.icmpYes X0.here hx rfl (pc0 := 23) (pc' := 28) rfl (hb hby dok_23) rfl (tlt u4).2.2.1 (by decide) (by decide) k) ?_
    show oG p e below _ s₁ (mkF m 28 #[.val (.int c1)] [])
    refine oS (fun t k => XS.iloadN X0.here hx rfl (hb hby dok_28) rfl  k) ?_
    refine oS (fun t k => XS.bipush X0.here hx rfl (hb hby dok_29) k) ?_
    show oG p e below _ s₁ (mkF m 31 #[.val (.int c1)] [(.int 48), (.int c1)])
    refine oS (fun t k => XS.icmpNo X0.here hx rfl (hb hby dok_31) rfl (flt u5).1 k) ?_
    show oG p e below _ s₁ (mkF m 34 #[.val (.int c1)] [])
    refine oS (fun t k => XS.iloadN X0.here hx rfl (hb hby dok_34) rfl  k) ?_
    refine oS (fun t k => XS.bipush X0.here hx rfl (hb hby dok_35) k) ?_
    show oG p e below _ s₁ (mkF m 37 #[.val (.int c1)] [(.int 57), (.int c1)])
    refine oS (fun t k => XS.icmpYes X0.here hx rfl (pc0 := 37) (pc' := 42) rfl (hb hby dok_37) rfl (tlt u6).2.2.1 (by decide) (by decide) k) ?_
    show oG p e below _ s₁ (mkF m 42 #[.val (.int c1)] [])
    refine oS (fun t k => XS.iloadN X0.here hx rfl (hb hby dok_42) rfl  k) ?_
    refine oS (fun t k => XS.bipush X0.here hx rfl (hb hby dok_43) k) ?_
    show oG p e below _ s₁ (mkF m 45 #[.val (.int c1)] [(.int 95), (.int c1)])
    refine oS (fun t k => XS.icmpNo X0.here hx rfl (hb hby dok_45) rfl (feq u7).1 k) ?_
    show oG p e below _ s₁ (mkF m 48 #[.val (.int c1)] [])
    refine oS (fun t k => XS.iloadN X0.here hx rfl (hb hby dok_48) rfl  k) ?_
    refine oS (fun t k => XS.bipush X0.here hx rfl (hb hby dok_49) k) ?_
    show oG p e below _ s₁ (mkF m 51 #[.val (.int c1)] [(.int 45), (.int c1)])
    refine oS (fun t k => XS.icmpYes X0.here hx rfl (pc0 := 51) (pc' := 58) rfl (hb hby dok_51) rfl (feq u8).2 (by decide) (by decide) k) ?_
    show oG p e below _ s₁ (mkF m 58 #[.val (.int c1)] [])
    refine oS (fun t k => XS.iconst X0.here hx rfl (hb hby dok_58) k) ?_
    show oG p e below _ s₁ (mkF m 59 #[.val (.int c1)] [(.int 0)])
    refine own_retN (t := .boolean) X0 hx hlk hret (by simp) (hb hby dok_59) ?_ (by decide) (by decide)
    rw [e0]
    exact ⟨by rw [own_okv, if_neg (own_no2 ⟨u1, u2, u3, u4, u5, u6, u7, u8⟩) ]; rfl, N0, rfl⟩
  · refine oS (fun t k => XS.icmpYes X0.here hx rfl (pc0 := 3) (pc' := 14) rfl (hb hby dok_3) rfl (tlt u1).1 (by decide) (by decide) k) ?_
    show oG p e below _ s₁ (mkF m 14 #[.val (.int c1)] [])
    refine oS (fun t k => XS.iloadN X0.here hx rfl (hb hby dok_14) rfl  k) ?_
    refine oS (fun t k => XS.bipush X0.here hx rfl (hb hby dok_15) k) ?_
    show oG p e below _ s₁ (mkF m 17 #[.val (.int c1)] [(.int 65), (.int c1)])
    refine oS (fun t k => XS.icmpNo X0.here hx rfl (hb hby dok_17) rfl (flt u2).1 k) ?_
    show oG p e below _ s₁ (mkF m 20 #[.val (.int c1)] [])
    refine oS (fun t k => XS.iloadN X0.here hx rfl (hb hby dok_20) rfl  k) ?_
    refine oS (fun t k => XS.bipush X0.here hx rfl (hb hby dok_21) k) ?_
    show oG p e below _ s₁ (mkF m 23 #[.val (.int c1)] [(.int 90), (.int c1)])
    refine oS (fun t k => XS.icmpYes X0.here hx rfl (pc0 := 23) (pc' := 28) rfl (hb hby dok_23) rfl (tlt u3).2.2.1 (by decide) (by decide) k) ?_
    show oG p e below _ s₁ (mkF m 28 #[.val (.int c1)] [])
    refine oS (fun t k => XS.iloadN X0.here hx rfl (hb hby dok_28) rfl  k) ?_
    refine oS (fun t k => XS.bipush X0.here hx rfl (hb hby dok_29) k) ?_
    show oG p e below _ s₁ (mkF m 31 #[.val (.int c1)] [(.int 48), (.int c1)])
    refine oS (fun t k => XS.icmpNo X0.here hx rfl (hb hby dok_31) rfl (flt u4).1 k) ?_
    show oG p e below _ s₁ (mkF m 34 #[.val (.int c1)] [])
    refine oS (fun t k => XS.iloadN X0.here hx rfl (hb hby dok_34) rfl  k) ?_
    refine oS (fun t k => XS.bipush X0.here hx rfl (hb hby dok_35) k) ?_
    show oG p e below _ s₁ (mkF m 37 #[.val (.int c1)] [(.int 57), (.int c1)])
    refine oS (fun t k => XS.icmpYes X0.here hx rfl (pc0 := 37) (pc' := 42) rfl (hb hby dok_37) rfl (tlt u5).2.2.1 (by decide) (by decide) k) ?_
    show oG p e below _ s₁ (mkF m 42 #[.val (.int c1)] [])
    refine oS (fun t k => XS.iloadN X0.here hx rfl (hb hby dok_42) rfl  k) ?_
    refine oS (fun t k => XS.bipush X0.here hx rfl (hb hby dok_43) k) ?_
    show oG p e below _ s₁ (mkF m 45 #[.val (.int c1)] [(.int 95), (.int c1)])
    refine oS (fun t k => XS.icmpNo X0.here hx rfl (hb hby dok_45) rfl (feq u6).1 k) ?_
    show oG p e below _ s₁ (mkF m 48 #[.val (.int c1)] [])
    refine oS (fun t k => XS.iloadN X0.here hx rfl (hb hby dok_48) rfl  k) ?_
    refine oS (fun t k => XS.bipush X0.here hx rfl (hb hby dok_49) k) ?_
    show oG p e below _ s₁ (mkF m 51 #[.val (.int c1)] [(.int 45), (.int c1)])
    refine oS (fun t k => XS.icmpYes X0.here hx rfl (pc0 := 51) (pc' := 58) rfl (hb hby dok_51) rfl (feq u7).2 (by decide) (by decide) k) ?_
    show oG p e below _ s₁ (mkF m 58 #[.val (.int c1)] [])
    refine oS (fun t k => XS.iconst X0.here hx rfl (hb hby dok_58) k) ?_
    show oG p e below _ s₁ (mkF m 59 #[.val (.int c1)] [(.int 0)])
    refine own_retN (t := .boolean) X0 hx hlk hret (by simp) (hb hby dok_59) ?_ (by decide) (by decide)
    rw [e0]
    exact ⟨by rw [own_okv, if_neg (own_no3 ⟨u1, u2, u3, u4, u5, u6, u7⟩) ]; rfl, N0, rfl⟩
  · show oG p e below _ s₁ (mkF m 3 #[.val (.int 95)] [(.int 97), (.int 95)])
    refine oS (fun t k => XS.icmpYes X0.here hx rfl (pc0 := 3) (pc' := 14) rfl (hb hby dok_3) rfl (tlt (by decide : (95 : Int32) < 97)).1 (by decide) (by decide) k) ?_
    show oG p e below _ s₁ (mkF m 14 #[.val (.int 95)] [])
    refine oS (fun t k => XS.iloadN X0.here hx rfl (hb hby dok_14) rfl  k) ?_
    refine oS (fun t k => XS.bipush X0.here hx rfl (hb hby dok_15) k) ?_
    show oG p e below _ s₁ (mkF m 17 #[.val (.int 95)] [(.int 65), (.int 95)])
    refine oS (fun t k => XS.icmpNo X0.here hx rfl (hb hby dok_17) rfl (flt (by decide : ¬ (95 : Int32) < 65)).1 k) ?_
    show oG p e below _ s₁ (mkF m 20 #[.val (.int 95)] [])
    refine oS (fun t k => XS.iloadN X0.here hx rfl (hb hby dok_20) rfl  k) ?_
    refine oS (fun t k => XS.bipush X0.here hx rfl (hb hby dok_21) k) ?_
    show oG p e below _ s₁ (mkF m 23 #[.val (.int 95)] [(.int 90), (.int 95)])
    refine oS (fun t k => XS.icmpYes X0.here hx rfl (pc0 := 23) (pc' := 28) rfl (hb hby dok_23) rfl (tlt (by decide : (90 : Int32) < 95)).2.2.1 (by decide) (by decide) k) ?_
    show oG p e below _ s₁ (mkF m 28 #[.val (.int 95)] [])
    refine oS (fun t k => XS.iloadN X0.here hx rfl (hb hby dok_28) rfl  k) ?_
    refine oS (fun t k => XS.bipush X0.here hx rfl (hb hby dok_29) k) ?_
    show oG p e below _ s₁ (mkF m 31 #[.val (.int 95)] [(.int 48), (.int 95)])
    refine oS (fun t k => XS.icmpNo X0.here hx rfl (hb hby dok_31) rfl (flt (by decide : ¬ (95 : Int32) < 48)).1 k) ?_
    show oG p e below _ s₁ (mkF m 34 #[.val (.int 95)] [])
    refine oS (fun t k => XS.iloadN X0.here hx rfl (hb hby dok_34) rfl  k) ?_
    refine oS (fun t k => XS.bipush X0.here hx rfl (hb hby dok_35) k) ?_
    show oG p e below _ s₁ (mkF m 37 #[.val (.int 95)] [(.int 57), (.int 95)])
    refine oS (fun t k => XS.icmpYes X0.here hx rfl (pc0 := 37) (pc' := 42) rfl (hb hby dok_37) rfl (tlt (by decide : (57 : Int32) < 95)).2.2.1 (by decide) (by decide) k) ?_
    show oG p e below _ s₁ (mkF m 42 #[.val (.int 95)] [])
    refine oS (fun t k => XS.iloadN X0.here hx rfl (hb hby dok_42) rfl  k) ?_
    refine oS (fun t k => XS.bipush X0.here hx rfl (hb hby dok_43) k) ?_
    show oG p e below _ s₁ (mkF m 45 #[.val (.int 95)] [(.int 95), (.int 95)])
    refine oS (fun t k => XS.icmpYes X0.here hx rfl (pc0 := 45) (pc' := 54) rfl (hb hby dok_45) rfl (teq (rfl : (95 : Int32) = 95)).1 (by decide) (by decide) k) ?_
    show oG p e below _ s₁ (mkF m 54 #[.val (.int 95)] [])
    refine oS (fun t k => XS.iconst X0.here hx rfl (hb hby dok_54) k) ?_
    refine oS (fun t k => XS.goto X0.here hx rfl (pc0 := 55) (pc' := 59) rfl (hb hby dok_55) (by decide) (by decide) k) ?_
    show oG p e below _ s₁ (mkF m 59 #[.val (.int 95)] [(.int 1)])
    refine own_retN (t := .boolean) X0 hx hlk hret (by simp) (hb hby dok_59) ?_ (by decide) (by decide)
    rw [e0]
    exact ⟨by rw [own_okv, if_pos ((by decide : okc 95)) ]; rfl, N0, rfl⟩
  · refine oS (fun t k => XS.icmpYes X0.here hx rfl (pc0 := 3) (pc' := 14) rfl (hb hby dok_3) rfl (tlt u1).1 (by decide) (by decide) k) ?_
    show oG p e below _ s₁ (mkF m 14 #[.val (.int c1)] [])
    refine oS (fun t k => XS.iloadN X0.here hx rfl (hb hby dok_14) rfl  k) ?_
    refine oS (fun t k => XS.bipush X0.here hx rfl (hb hby dok_15) k) ?_
    show oG p e below _ s₁ (mkF m 17 #[.val (.int c1)] [(.int 65), (.int c1)])
    refine oS (fun t k => XS.icmpNo X0.here hx rfl (hb hby dok_17) rfl (flt u2).1 k) ?_
    show oG p e below _ s₁ (mkF m 20 #[.val (.int c1)] [])
    refine oS (fun t k => XS.iloadN X0.here hx rfl (hb hby dok_20) rfl  k) ?_
    refine oS (fun t k => XS.bipush X0.here hx rfl (hb hby dok_21) k) ?_
    show oG p e below _ s₁ (mkF m 23 #[.val (.int c1)] [(.int 90), (.int c1)])
    refine oS (fun t k => XS.icmpNo X0.here hx rfl (hb hby dok_23) rfl (flt u3).2.2.1 k) ?_
    show oG p e below _ s₁ (mkF m 26 #[.val (.int c1)] [])
    refine oS (fun t k => XS.iconst X0.here hx rfl (hb hby dok_26) k) ?_
    show oG p e below _ s₁ (mkF m 27 #[.val (.int c1)] [(.int 1)])
    refine own_retN (t := .boolean) X0 hx hlk hret (by simp) (hb hby dok_27) ?_ (by decide) (by decide)
    rw [e0]
    exact ⟨by rw [own_okv, if_pos (own_ok5 ⟨u1, u2, u3⟩) ]; rfl, N0, rfl⟩
  · refine oS (fun t k => XS.icmpYes X0.here hx rfl (pc0 := 3) (pc' := 14) rfl (hb hby dok_3) rfl (tlt u1).1 (by decide) (by decide) k) ?_
    show oG p e below _ s₁ (mkF m 14 #[.val (.int c1)] [])
    refine oS (fun t k => XS.iloadN X0.here hx rfl (hb hby dok_14) rfl  k) ?_
    refine oS (fun t k => XS.bipush X0.here hx rfl (hb hby dok_15) k) ?_
    show oG p e below _ s₁ (mkF m 17 #[.val (.int c1)] [(.int 65), (.int c1)])
    refine oS (fun t k => XS.icmpYes X0.here hx rfl (pc0 := 17) (pc' := 28) rfl (hb hby dok_17) rfl (tlt u2).1 (by decide) (by decide) k) ?_
    show oG p e below _ s₁ (mkF m 28 #[.val (.int c1)] [])
    refine oS (fun t k => XS.iloadN X0.here hx rfl (hb hby dok_28) rfl  k) ?_
    refine oS (fun t k => XS.bipush X0.here hx rfl (hb hby dok_29) k) ?_
    show oG p e below _ s₁ (mkF m 31 #[.val (.int c1)] [(.int 48), (.int c1)])
    refine oS (fun t k => XS.icmpNo X0.here hx rfl (hb hby dok_31) rfl (flt u3).1 k) ?_
    show oG p e below _ s₁ (mkF m 34 #[.val (.int c1)] [])
    refine oS (fun t k => XS.iloadN X0.here hx rfl (hb hby dok_34) rfl  k) ?_
    refine oS (fun t k => XS.bipush X0.here hx rfl (hb hby dok_35) k) ?_
    show oG p e below _ s₁ (mkF m 37 #[.val (.int c1)] [(.int 57), (.int c1)])
    refine oS (fun t k => XS.icmpYes X0.here hx rfl (pc0 := 37) (pc' := 42) rfl (hb hby dok_37) rfl (tlt u4).2.2.1 (by decide) (by decide) k) ?_
    show oG p e below _ s₁ (mkF m 42 #[.val (.int c1)] [])
    refine oS (fun t k => XS.iloadN X0.here hx rfl (hb hby dok_42) rfl  k) ?_
    refine oS (fun t k => XS.bipush X0.here hx rfl (hb hby dok_43) k) ?_
    show oG p e below _ s₁ (mkF m 45 #[.val (.int c1)] [(.int 95), (.int c1)])
    refine oS (fun t k => XS.icmpNo X0.here hx rfl (hb hby dok_45) rfl (feq u5).1 k) ?_
    show oG p e below _ s₁ (mkF m 48 #[.val (.int c1)] [])
    refine oS (fun t k => XS.iloadN X0.here hx rfl (hb hby dok_48) rfl  k) ?_
    refine oS (fun t k => XS.bipush X0.here hx rfl (hb hby dok_49) k) ?_
    show oG p e below _ s₁ (mkF m 51 #[.val (.int c1)] [(.int 45), (.int c1)])
    refine oS (fun t k => XS.icmpYes X0.here hx rfl (pc0 := 51) (pc' := 58) rfl (hb hby dok_51) rfl (feq u6).2 (by decide) (by decide) k) ?_
    show oG p e below _ s₁ (mkF m 58 #[.val (.int c1)] [])
    refine oS (fun t k => XS.iconst X0.here hx rfl (hb hby dok_58) k) ?_
    show oG p e below _ s₁ (mkF m 59 #[.val (.int c1)] [(.int 0)])
    refine own_retN (t := .boolean) X0 hx hlk hret (by simp) (hb hby dok_59) ?_ (by decide) (by decide)
    rw [e0]
    exact ⟨by rw [own_okv, if_neg (own_no6 ⟨u1, u2, u3, u4, u5, u6⟩) ]; rfl, N0, rfl⟩
  · refine oS (fun t k => XS.icmpYes X0.here hx rfl (pc0 := 3) (pc' := 14) rfl (hb hby dok_3) rfl (tlt u1).1 (by decide) (by decide) k) ?_
    show oG p e below _ s₁ (mkF m 14 #[.val (.int c1)] [])
    refine oS (fun t k => XS.iloadN X0.here hx rfl (hb hby dok_14) rfl  k) ?_
    refine oS (fun t k => XS.bipush X0.here hx rfl (hb hby dok_15) k) ?_
    show oG p e below _ s₁ (mkF m 17 #[.val (.int c1)] [(.int 65), (.int c1)])
    refine oS (fun t k => XS.icmpYes X0.here hx rfl (pc0 := 17) (pc' := 28) rfl (hb hby dok_17) rfl (tlt u2).1 (by decide) (by decide) k) ?_
    show oG p e below _ s₁ (mkF m 28 #[.val (.int c1)] [])
    refine oS (fun t k => XS.iloadN X0.here hx rfl (hb hby dok_28) rfl  k) ?_
    refine oS (fun t k => XS.bipush X0.here hx rfl (hb hby dok_29) k) ?_
    show oG p e below _ s₁ (mkF m 31 #[.val (.int c1)] [(.int 48), (.int c1)])
    refine oS (fun t k => XS.icmpNo X0.here hx rfl (hb hby dok_31) rfl (flt u3).1 k) ?_
    show oG p e below _ s₁ (mkF m 34 #[.val (.int c1)] [])
    refine oS (fun t k => XS.iloadN X0.here hx rfl (hb hby dok_34) rfl  k) ?_
    refine oS (fun t k => XS.bipush X0.here hx rfl (hb hby dok_35) k) ?_
    show oG p e below _ s₁ (mkF m 37 #[.val (.int c1)] [(.int 57), (.int c1)])
    refine oS (fun t k => XS.icmpNo X0.here hx rfl (hb hby dok_37) rfl (flt u4).2.2.1 k) ?_
    show oG p e below _ s₁ (mkF m 40 #[.val (.int c1)] [])
    refine oS (fun t k => XS.iconst X0.here hx rfl (hb hby dok_40) k) ?_
    show oG p e below _ s₁ (mkF m 41 #[.val (.int c1)] [(.int 1)])
    refine own_retN (t := .boolean) X0 hx hlk hret (by simp) (hb hby dok_41) ?_ (by decide) (by decide)
    rw [e0]
    exact ⟨by rw [own_okv, if_pos (own_ok7 ⟨u1, u2, u3, u4⟩) ]; rfl, N0, rfl⟩
  · refine oS (fun t k => XS.icmpYes X0.here hx rfl (pc0 := 3) (pc' := 14) rfl (hb hby dok_3) rfl (tlt u1).1 (by decide) (by decide) k) ?_
    show oG p e below _ s₁ (mkF m 14 #[.val (.int c1)] [])
    refine oS (fun t k => XS.iloadN X0.here hx rfl (hb hby dok_14) rfl  k) ?_
    refine oS (fun t k => XS.bipush X0.here hx rfl (hb hby dok_15) k) ?_
    show oG p e below _ s₁ (mkF m 17 #[.val (.int c1)] [(.int 65), (.int c1)])
    refine oS (fun t k => XS.icmpYes X0.here hx rfl (pc0 := 17) (pc' := 28) rfl (hb hby dok_17) rfl (tlt u2).1 (by decide) (by decide) k) ?_
    show oG p e below _ s₁ (mkF m 28 #[.val (.int c1)] [])
    refine oS (fun t k => XS.iloadN X0.here hx rfl (hb hby dok_28) rfl  k) ?_
    refine oS (fun t k => XS.bipush X0.here hx rfl (hb hby dok_29) k) ?_
    show oG p e below _ s₁ (mkF m 31 #[.val (.int c1)] [(.int 48), (.int c1)])
    refine oS (fun t k => XS.icmpYes X0.here hx rfl (pc0 := 31) (pc' := 42) rfl (hb hby dok_31) rfl (tlt u3).1 (by decide) (by decide) k) ?_
    show oG p e below _ s₁ (mkF m 42 #[.val (.int c1)] [])
    refine oS (fun t k => XS.iloadN X0.here hx rfl (hb hby dok_42) rfl  k) ?_
    refine oS (fun t k => XS.bipush X0.here hx rfl (hb hby dok_43) k) ?_
    show oG p e below _ s₁ (mkF m 45 #[.val (.int c1)] [(.int 95), (.int c1)])
    refine oS (fun t k => XS.icmpNo X0.here hx rfl (hb hby dok_45) rfl (feq u4).1 k) ?_
    show oG p e below _ s₁ (mkF m 48 #[.val (.int c1)] [])
    refine oS (fun t k => XS.iloadN X0.here hx rfl (hb hby dok_48) rfl  k) ?_
    refine oS (fun t k => XS.bipush X0.here hx rfl (hb hby dok_49) k) ?_
    show oG p e below _ s₁ (mkF m 51 #[.val (.int c1)] [(.int 45), (.int c1)])
    refine oS (fun t k => XS.icmpYes X0.here hx rfl (pc0 := 51) (pc' := 58) rfl (hb hby dok_51) rfl (feq u5).2 (by decide) (by decide) k) ?_
    show oG p e below _ s₁ (mkF m 58 #[.val (.int c1)] [])
    refine oS (fun t k => XS.iconst X0.here hx rfl (hb hby dok_58) k) ?_
    show oG p e below _ s₁ (mkF m 59 #[.val (.int c1)] [(.int 0)])
    refine own_retN (t := .boolean) X0 hx hlk hret (by simp) (hb hby dok_59) ?_ (by decide) (by decide)
    rw [e0]
    exact ⟨by rw [own_okv, if_neg (own_no8 ⟨u1, u2, u3, u4, u5⟩) ]; rfl, N0, rfl⟩
  · show oG p e below _ s₁ (mkF m 3 #[.val (.int 45)] [(.int 97), (.int 45)])
    refine oS (fun t k => XS.icmpYes X0.here hx rfl (pc0 := 3) (pc' := 14) rfl (hb hby dok_3) rfl (tlt (by decide : (45 : Int32) < 97)).1 (by decide) (by decide) k) ?_
    show oG p e below _ s₁ (mkF m 14 #[.val (.int 45)] [])
    refine oS (fun t k => XS.iloadN X0.here hx rfl (hb hby dok_14) rfl  k) ?_
    refine oS (fun t k => XS.bipush X0.here hx rfl (hb hby dok_15) k) ?_
    show oG p e below _ s₁ (mkF m 17 #[.val (.int 45)] [(.int 65), (.int 45)])
    refine oS (fun t k => XS.icmpYes X0.here hx rfl (pc0 := 17) (pc' := 28) rfl (hb hby dok_17) rfl (tlt (by decide : (45 : Int32) < 65)).1 (by decide) (by decide) k) ?_
    show oG p e below _ s₁ (mkF m 28 #[.val (.int 45)] [])
    refine oS (fun t k => XS.iloadN X0.here hx rfl (hb hby dok_28) rfl  k) ?_
    refine oS (fun t k => XS.bipush X0.here hx rfl (hb hby dok_29) k) ?_
    show oG p e below _ s₁ (mkF m 31 #[.val (.int 45)] [(.int 48), (.int 45)])
    refine oS (fun t k => XS.icmpYes X0.here hx rfl (pc0 := 31) (pc' := 42) rfl (hb hby dok_31) rfl (tlt (by decide : (45 : Int32) < 48)).1 (by decide) (by decide) k) ?_
    show oG p e below _ s₁ (mkF m 42 #[.val (.int 45)] [])
    refine oS (fun t k => XS.iloadN X0.here hx rfl (hb hby dok_42) rfl  k) ?_
    refine oS (fun t k => XS.bipush X0.here hx rfl (hb hby dok_43) k) ?_
    show oG p e below _ s₁ (mkF m 45 #[.val (.int 45)] [(.int 95), (.int 45)])
    refine oS (fun t k => XS.icmpNo X0.here hx rfl (hb hby dok_45) rfl (feq (by decide : ¬ (45 : Int32) = 95)).1 k) ?_
    show oG p e below _ s₁ (mkF m 48 #[.val (.int 45)] [])
    refine oS (fun t k => XS.iloadN X0.here hx rfl (hb hby dok_48) rfl  k) ?_
    refine oS (fun t k => XS.bipush X0.here hx rfl (hb hby dok_49) k) ?_
    show oG p e below _ s₁ (mkF m 51 #[.val (.int 45)] [(.int 45), (.int 45)])
    refine oS (fun t k => XS.icmpNo X0.here hx rfl (hb hby dok_51) rfl (teq (rfl : (45 : Int32) = 45)).2 k) ?_
    show oG p e below _ s₁ (mkF m 54 #[.val (.int 45)] [])
    refine oS (fun t k => XS.iconst X0.here hx rfl (hb hby dok_54) k) ?_
    refine oS (fun t k => XS.goto X0.here hx rfl (pc0 := 55) (pc' := 59) rfl (hb hby dok_55) (by decide) (by decide) k) ?_
    show oG p e below _ s₁ (mkF m 59 #[.val (.int 45)] [(.int 1)])
    refine own_retN (t := .boolean) X0 hx hlk hret (by simp) (hb hby dok_59) ?_ (by decide) (by decide)
    rw [e0]
    exact ⟨by rw [own_okv, if_pos ((by decide : okc 45)) ]; rfl, N0, rfl⟩
theorem dtnN_0 : decode prog_22_method_2_code 0 = .ok (.aload_n 0, 1) := by decide +kernel
theorem dtnN_1 : decode prog_22_method_2_code 1 = .ok (.ifnull 19, 3) := by decide +kernel
theorem dtnN_4 : decode prog_22_method_2_code 4 = .ok (.aload_n 0, 1) := by decide +kernel
theorem dtnN_5 : decode prog_22_method_2_code 5 = .ok (.invokevirtual 9, 3) := by decide +kernel
theorem dtnN_8 : decode prog_22_method_2_code 8 = .ok (.ifCond .ne 12, 3) := by decide +kernel
theorem dtnN_11 : decode prog_22_method_2_code 11 = .ok (.aload_n 0, 1) := by decide +kernel
theorem dtnN_12 : decode prog_22_method_2_code 12 = .ok (.invokevirtual 15, 3) := by decide +kernel
theorem dtnN_15 : decode prog_22_method_2_code 15 = .ok (.bipush 127, 2) := by decide +kernel
theorem dtnN_17 : decode prog_22_method_2_code 17 = .ok (.if_icmp .le 5, 3) := by decide +kernel
theorem dtnN_20 : decode prog_22_method_2_code 20 = .ok (.iconst 0, 1) := by decide +kernel
theorem dtnN_21 : decode prog_22_method_2_code 21 = .ok (.ireturn, 1) := by decide +kernel
theorem dtnN_22 : decode prog_22_method_2_code 22 = .ok (.iconst 0, 1) := by decide +kernel
theorem dtnN_23 : decode prog_22_method_2_code 23 = .ok (.istore_n 1, 1) := by decide +kernel
theorem dtnN_24 : decode prog_22_method_2_code 24 = .ok (.iload_n 1, 1) := by decide +kernel
theorem dtnN_25 : decode prog_22_method_2_code 25 = .ok (.aload_n 0, 1) := by decide +kernel
theorem dtnN_26 : decode prog_22_method_2_code 26 = .ok (.invokevirtual 15, 3) := by decide +kernel
theorem dtnN_29 : decode prog_22_method_2_code 29 = .ok (.if_icmp .ge 75, 3) := by decide +kernel
theorem dtnN_32 : decode prog_22_method_2_code 32 = .ok (.aload_n 0, 1) := by decide +kernel
theorem dtnN_33 : decode prog_22_method_2_code 33 = .ok (.iload_n 1, 1) := by decide +kernel
theorem dtnN_34 : decode prog_22_method_2_code 34 = .ok (.invokevirtual 19, 3) := by decide +kernel
theorem dtnN_37 : decode prog_22_method_2_code 37 = .ok (.istore_n 2, 1) := by decide +kernel
theorem dtnN_38 : decode prog_22_method_2_code 38 = .ok (.iload_n 2, 1) := by decide +kernel
theorem dtnN_39 : decode prog_22_method_2_code 39 = .ok (.bipush 97, 2) := by decide +kernel
theorem dtnN_41 : decode prog_22_method_2_code 41 = .ok (.if_icmp .lt 9, 3) := by decide +kernel
theorem dtnN_44 : decode prog_22_method_2_code 44 = .ok (.iload_n 2, 1) := by decide +kernel
theorem dtnN_45 : decode prog_22_method_2_code 45 = .ok (.bipush 122, 2) := by decide +kernel
theorem dtnN_47 : decode prog_22_method_2_code 47 = .ok (.if_icmp .le 39, 3) := by decide +kernel
theorem dtnN_50 : decode prog_22_method_2_code 50 = .ok (.iload_n 2, 1) := by decide +kernel
theorem dtnN_51 : decode prog_22_method_2_code 51 = .ok (.bipush 65, 2) := by decide +kernel
theorem dtnN_53 : decode prog_22_method_2_code 53 = .ok (.if_icmp .lt 9, 3) := by decide +kernel
theorem dtnN_56 : decode prog_22_method_2_code 56 = .ok (.iload_n 2, 1) := by decide +kernel
theorem dtnN_57 : decode prog_22_method_2_code 57 = .ok (.bipush 90, 2) := by decide +kernel
theorem dtnN_59 : decode prog_22_method_2_code 59 = .ok (.if_icmp .le 27, 3) := by decide +kernel
theorem dtnN_62 : decode prog_22_method_2_code 62 = .ok (.iload_n 2, 1) := by decide +kernel
theorem dtnN_63 : decode prog_22_method_2_code 63 = .ok (.bipush 48, 2) := by decide +kernel
theorem dtnN_65 : decode prog_22_method_2_code 65 = .ok (.if_icmp .lt 9, 3) := by decide +kernel
theorem dtnN_68 : decode prog_22_method_2_code 68 = .ok (.iload_n 2, 1) := by decide +kernel
theorem dtnN_69 : decode prog_22_method_2_code 69 = .ok (.bipush 57, 2) := by decide +kernel
theorem dtnN_71 : decode prog_22_method_2_code 71 = .ok (.if_icmp .le 15, 3) := by decide +kernel
theorem dtnN_74 : decode prog_22_method_2_code 74 = .ok (.iload_n 2, 1) := by decide +kernel
theorem dtnN_75 : decode prog_22_method_2_code 75 = .ok (.bipush 95, 2) := by decide +kernel
theorem dtnN_77 : decode prog_22_method_2_code 77 = .ok (.if_icmp .eq 9, 3) := by decide +kernel
theorem dtnN_80 : decode prog_22_method_2_code 80 = .ok (.iload_n 2, 1) := by decide +kernel
theorem dtnN_81 : decode prog_22_method_2_code 81 = .ok (.bipush 45, 2) := by decide +kernel
theorem dtnN_83 : decode prog_22_method_2_code 83 = .ok (.if_icmp .ne 7, 3) := by decide +kernel
theorem dtnN_86 : decode prog_22_method_2_code 86 = .ok (.iconst 1, 1) := by decide +kernel
theorem dtnN_87 : decode prog_22_method_2_code 87 = .ok (.goto 4, 3) := by decide +kernel
theorem dtnN_90 : decode prog_22_method_2_code 90 = .ok (.iconst 0, 1) := by decide +kernel
theorem dtnN_91 : decode prog_22_method_2_code 91 = .ok (.istore_n 3, 1) := by decide +kernel
theorem dtnN_92 : decode prog_22_method_2_code 92 = .ok (.iload_n 3, 1) := by decide +kernel
theorem dtnN_93 : decode prog_22_method_2_code 93 = .ok (.ifCond .ne 5, 3) := by decide +kernel
theorem dtnN_96 : decode prog_22_method_2_code 96 = .ok (.iconst 0, 1) := by decide +kernel
theorem dtnN_97 : decode prog_22_method_2_code 97 = .ok (.ireturn, 1) := by decide +kernel
theorem dtnN_98 : decode prog_22_method_2_code 98 = .ok (.iinc 1 1, 3) := by decide +kernel
theorem dtnN_101 : decode prog_22_method_2_code 101 = .ok (.goto (-77), 3) := by decide +kernel
theorem dtnN_104 : decode prog_22_method_2_code 104 = .ok (.iconst 1, 1) := by decide +kernel
theorem dtnN_105 : decode prog_22_method_2_code 105 = .ok (.ireturn, 1) := by decide +kernel
theorem pn_4 : plainName "com/example/loqix/loqix/TopicName" = true := by first | (simp [plainName, overriddenIn]; done) | decide +kernel
theorem eftnN (m : MethodId)  : entryFrame m #[.null] 4 = mkF m 0 #[.val .null, .unset, .unset, .unset] [] := by first | (simp [entryFrame, mkF, argsToLocals, Value.category]; done) | rfl
set_option maxRecDepth 65536 in
set_option maxHeartbeats 40000000 in
theorem rm_tnN (l : Launch) (Z : State) (a0 : Array Value) (hw : ∀ d ∈ tables_1, d.before a0 Z = true) (ws : List Jvm.Cond) (h0 : Heap) (n0 : Nat) (Z0 : n0 ≤ h0.size) :
    own_Met l Z ws (⟨"com/example/loqix/loqix/TopicName", "isValid", "(Ljava/lang/String;)Z"⟩ : MethodName) prog_22_method_2_code 4 (some .boolean) ({ frames := 0, cells := 0, slots := 0, locals := 0 } : Room) #[.null] h0 (fun v h L => v = some (.int 0) ∧ Fr n0 L ∧ h = h0) := by
  refine own_body (plainFor_of_name pn_4) ?_
  intro p e s m below meth c s₁ hx hby hml hret hlk hown hnm hZ X0 e0
  have hml : c.maxLocals = 4 := hml
  have hown : s.vm.findClass "com/example/loqix/loqix/TopicName" = some m.cls := hown
  have N0 := Fr.nil n0
  refine own_cast (eftnN m ) ?_
  show oG p e below _ s₁ (mkF m 0 #[.val .null, .unset, .unset, .unset] [])
  refine oS (fun t k => XS.aloadN X0.here hx rfl (hb hby dtnN_0) rfl rfl k) ?_
  show oG p e below _ s₁ (mkF m 1 #[.val .null, .unset, .unset, .unset] [.null])
  refine oS (fun t k => XS.ifnullYes X0.here hx rfl (pc0 := 1) (pc' := 20) rfl (hb hby dtnN_1) rfl (by decide) (by decide) k) ?_
  show oG p e below _ s₁ (mkF m 20 #[.val .null, .unset, .unset, .unset] [])
  refine oS (fun t k => XS.iconst X0.here hx rfl (hb hby dtnN_20) k) ?_
  show oG p e below _ s₁ (mkF m 21 #[.val .null, .unset, .unset, .unset] [(.int 0)])
  refine own_retN (t := .boolean) X0 hx hlk hret (by simp) (hb hby dtnN_21) ?_ (by decide) (by decide)
  rw [e0]
  exact ⟨rfl, N0, rfl⟩
theorem dtn_0 : decode prog_22_method_2_code 0 = .ok (.aload_n 0, 1) := by decide +kernel
theorem dtn_1 : decode prog_22_method_2_code 1 = .ok (.ifnull 19, 3) := by decide +kernel
theorem dtn_4 : decode prog_22_method_2_code 4 = .ok (.aload_n 0, 1) := by decide +kernel
theorem dtn_5 : decode prog_22_method_2_code 5 = .ok (.invokevirtual 9, 3) := by decide +kernel
theorem dtn_8 : decode prog_22_method_2_code 8 = .ok (.ifCond .ne 12, 3) := by decide +kernel
theorem dtn_11 : decode prog_22_method_2_code 11 = .ok (.aload_n 0, 1) := by decide +kernel
theorem dtn_12 : decode prog_22_method_2_code 12 = .ok (.invokevirtual 15, 3) := by decide +kernel
theorem dtn_15 : decode prog_22_method_2_code 15 = .ok (.bipush 127, 2) := by decide +kernel
theorem dtn_17 : decode prog_22_method_2_code 17 = .ok (.if_icmp .le 5, 3) := by decide +kernel
theorem dtn_20 : decode prog_22_method_2_code 20 = .ok (.iconst 0, 1) := by decide +kernel
theorem dtn_21 : decode prog_22_method_2_code 21 = .ok (.ireturn, 1) := by decide +kernel
theorem dtn_22 : decode prog_22_method_2_code 22 = .ok (.iconst 0, 1) := by decide +kernel
theorem dtn_23 : decode prog_22_method_2_code 23 = .ok (.istore_n 1, 1) := by decide +kernel
theorem dtn_24 : decode prog_22_method_2_code 24 = .ok (.iload_n 1, 1) := by decide +kernel
theorem dtn_25 : decode prog_22_method_2_code 25 = .ok (.aload_n 0, 1) := by decide +kernel
theorem dtn_26 : decode prog_22_method_2_code 26 = .ok (.invokevirtual 15, 3) := by decide +kernel
theorem dtn_29 : decode prog_22_method_2_code 29 = .ok (.if_icmp .ge 75, 3) := by decide +kernel
theorem dtn_32 : decode prog_22_method_2_code 32 = .ok (.aload_n 0, 1) := by decide +kernel
theorem dtn_33 : decode prog_22_method_2_code 33 = .ok (.iload_n 1, 1) := by decide +kernel
theorem dtn_34 : decode prog_22_method_2_code 34 = .ok (.invokevirtual 19, 3) := by decide +kernel
theorem dtn_37 : decode prog_22_method_2_code 37 = .ok (.istore_n 2, 1) := by decide +kernel
theorem dtn_38 : decode prog_22_method_2_code 38 = .ok (.iload_n 2, 1) := by decide +kernel
theorem dtn_39 : decode prog_22_method_2_code 39 = .ok (.bipush 97, 2) := by decide +kernel
theorem dtn_41 : decode prog_22_method_2_code 41 = .ok (.if_icmp .lt 9, 3) := by decide +kernel
theorem dtn_44 : decode prog_22_method_2_code 44 = .ok (.iload_n 2, 1) := by decide +kernel
theorem dtn_45 : decode prog_22_method_2_code 45 = .ok (.bipush 122, 2) := by decide +kernel
theorem dtn_47 : decode prog_22_method_2_code 47 = .ok (.if_icmp .le 39, 3) := by decide +kernel
theorem dtn_50 : decode prog_22_method_2_code 50 = .ok (.iload_n 2, 1) := by decide +kernel
theorem dtn_51 : decode prog_22_method_2_code 51 = .ok (.bipush 65, 2) := by decide +kernel
theorem dtn_53 : decode prog_22_method_2_code 53 = .ok (.if_icmp .lt 9, 3) := by decide +kernel
theorem dtn_56 : decode prog_22_method_2_code 56 = .ok (.iload_n 2, 1) := by decide +kernel
theorem dtn_57 : decode prog_22_method_2_code 57 = .ok (.bipush 90, 2) := by decide +kernel
theorem dtn_59 : decode prog_22_method_2_code 59 = .ok (.if_icmp .le 27, 3) := by decide +kernel
theorem dtn_62 : decode prog_22_method_2_code 62 = .ok (.iload_n 2, 1) := by decide +kernel
theorem dtn_63 : decode prog_22_method_2_code 63 = .ok (.bipush 48, 2) := by decide +kernel
theorem dtn_65 : decode prog_22_method_2_code 65 = .ok (.if_icmp .lt 9, 3) := by decide +kernel
theorem dtn_68 : decode prog_22_method_2_code 68 = .ok (.iload_n 2, 1) := by decide +kernel
theorem dtn_69 : decode prog_22_method_2_code 69 = .ok (.bipush 57, 2) := by decide +kernel
theorem dtn_71 : decode prog_22_method_2_code 71 = .ok (.if_icmp .le 15, 3) := by decide +kernel
theorem dtn_74 : decode prog_22_method_2_code 74 = .ok (.iload_n 2, 1) := by decide +kernel
theorem dtn_75 : decode prog_22_method_2_code 75 = .ok (.bipush 95, 2) := by decide +kernel
theorem dtn_77 : decode prog_22_method_2_code 77 = .ok (.if_icmp .eq 9, 3) := by decide +kernel
theorem dtn_80 : decode prog_22_method_2_code 80 = .ok (.iload_n 2, 1) := by decide +kernel
theorem dtn_81 : decode prog_22_method_2_code 81 = .ok (.bipush 45, 2) := by decide +kernel
theorem dtn_83 : decode prog_22_method_2_code 83 = .ok (.if_icmp .ne 7, 3) := by decide +kernel
theorem dtn_86 : decode prog_22_method_2_code 86 = .ok (.iconst 1, 1) := by decide +kernel
theorem dtn_87 : decode prog_22_method_2_code 87 = .ok (.goto 4, 3) := by decide +kernel
theorem dtn_90 : decode prog_22_method_2_code 90 = .ok (.iconst 0, 1) := by decide +kernel
theorem dtn_91 : decode prog_22_method_2_code 91 = .ok (.istore_n 3, 1) := by decide +kernel
theorem dtn_92 : decode prog_22_method_2_code 92 = .ok (.iload_n 3, 1) := by decide +kernel
theorem dtn_93 : decode prog_22_method_2_code 93 = .ok (.ifCond .ne 5, 3) := by decide +kernel
theorem dtn_96 : decode prog_22_method_2_code 96 = .ok (.iconst 0, 1) := by decide +kernel
theorem dtn_97 : decode prog_22_method_2_code 97 = .ok (.ireturn, 1) := by decide +kernel
theorem dtn_98 : decode prog_22_method_2_code 98 = .ok (.iinc 1 1, 3) := by decide +kernel
theorem dtn_101 : decode prog_22_method_2_code 101 = .ok (.goto (-77), 3) := by decide +kernel
theorem dtn_104 : decode prog_22_method_2_code 104 = .ok (.iconst 1, 1) := by decide +kernel
theorem dtn_105 : decode prog_22_method_2_code 105 = .ok (.ireturn, 1) := by decide +kernel
theorem eftn (m : MethodId) (x0 : Addr) : entryFrame m #[(.ref x0)] 4 = mkF m 0 #[.val (.ref x0), .unset, .unset, .unset] [] := by first | (simp [entryFrame, mkF, argsToLocals, Value.category]; done) | rfl
theorem pd_13 : parseMethodDescriptor "()I" = some ⟨[], some .int⟩ := by decide +kernel
theorem pd_14 : parseMethodDescriptor "(I)C" = some ⟨[.int], some .char⟩ := by decide +kernel
set_option maxRecDepth 65536 in
set_option maxHeartbeats 40000000 in
theorem rm_tn (l : Launch) (Z : State) (a0 : Array Value) (hw : ∀ d ∈ tables_1, d.before a0 Z = true) (ws : List Jvm.Cond) (a1 : Addr) (t1 : Addr) (kb : ClassId) (cd : Int32) (N2 : Int32) (vs : List Value) (cs : List Int32) (CS : Int32) (FM : Value) (h0 : Heap) (n0 : Nat) (Z0 : n0 ≤ h0.size) (E1 : Exa Z h0 a1 "java/lang/String") (V1 : Fld Z h0 a1 "java/lang/String" "value" "[B" (.ref t1)) (C1 : Fld Z h0 a1 "java/lang/String" "coder" "B" (.int cd)) (K1 : Arv Z h0 t1 kb .byte N2 vs (.int 0)) (hcd : StrChars.Road.CodA cs cd N2 vs) (hl4 : cs.length ≤ 4000) (hbd : ∀ c ∈ cs, ¬ c < 0 ∧ ¬ (65535 : Int32) < c) (SC : Sta Z h0 "java/lang/String" "COMPACT_STRINGS" "Z" (.int CS)) (SF : Sta Z h0 "jdk/internal/util/Preconditions" "SIOOBE_FORMATTER" "Ljava/util/function/BiFunction;" FM) (hCS : ¬ (CS = (0 : Int32))) (rFM : FM.isRef = true) (SA : Sta Z h0 "java/lang/StringUTF16" "$assertionsDisabled" "Z" (.int 1)) (SH : Sta Z h0 "java/lang/StringUTF16" "HI_BYTE_SHIFT" "I" (.int 0)) (SL : Sta Z h0 "java/lang/StringUTF16" "LO_BYTE_SHIFT" "I" (.int 8)) :
    own_Met l Z ws (⟨"com/example/loqix/loqix/TopicName", "isValid", "(Ljava/lang/String;)Z"⟩ : MethodName) prog_22_method_2_code 4 (some .boolean) ({ frames := 5, cells := 0, slots := 0, locals := 100 } : Room) #[(.ref a1)] h0 (fun v h L => v = some (.int (own_val cs)) ∧ Fr n0 L ∧ h = h0) := by
  refine own_body (plainFor_of_name pn_4) ?_
  intro p e s m below meth c s₁ hx hby hml hret hlk hown hnm hZ X0 e0
  have hml : c.maxLocals = 4 := hml
  have hown : s.vm.findClass "com/example/loqix/loqix/TopicName" = some m.cls := hown
  have N0 := Fr.nil n0
  have hln : ∀ d ∈ StrChars.Road.wordsLen, d.before a0 Z = true := fun d hd => hw d ((by decide +kernel : ∀ d ∈ StrChars.Road.wordsLen, d ∈ tables_1) d hd)
  have hch : ∀ d ∈ StrChars.Road.wordsChN, d.before a0 Z = true := fun d hd => hw d ((by decide +kernel : ∀ d ∈ StrChars.Road.wordsChN, d ∈ tables_1) d hd)
  have hem : ∀ d ∈ StrChars.Road.wordsEmp, d.before a0 Z = true := fun d hd => hw d ((by decide +kernel : ∀ d ∈ StrChars.Road.wordsEmp, d ∈ tables_1) d hd)
  have pays : ∀ i, i < cs.length → own_Bk l ({ frames := 5, cells := 0, slots := 0, locals := 100 } : Room) p e below s #[(.ref a1)] (⟨"java/lang/String", "charAt", "(I)C"⟩ : MethodName) 3 0 #[(.ref a1), (.int (Int32.ofNat i))] h0 0 0 (fun v h L => v = some (.int (cs.getD i 0)) ∧ Fr n0 L ∧ h = h0) := by
    intro i hi
    rcases id hcd with ⟨rfl, r2, r3, r4⟩ | ⟨rfl, rfl, rfl, r4⟩
    · refine own_Bk.mono (Q := fun v h L => v = some (.int (cs.getD i 0)) ∧ L = [] ∧ h = h0) (StrChars.Road.chN (W := 0) hZ hch (kI := 4) (oW hw 1 rfl) E1 V1 C1 K1 hcd hbd SC hCS SF rFM hl4 (i := i) hi (j := Int32.ofNat i) rfl (by decide) (by decide)) ?_
      rintro v h' L ⟨rfl, rfl, rfl⟩
      exact ⟨rfl, Fr.nil n0, rfl⟩
    · exact own_back (W := 0) (rm_ca l Z a0 hw [] a1 t1 i kb cs CS FM h0 n0 Z0 E1 V1 C1 K1 hl4 hbd hi SA SH SL SF rFM SC hCS) hZ (oW hw 60 rfl) (oW hw 2 rfl) (by decide) (by decide)
  have loop : ∀ (k i : Nat) (s2 s3 : Slot) (hs2 : One s2) (hs3 : One s3) (T : State) (locs : List Loc) (XL : Stand p l e ({ frames := 5, cells := 0, slots := 0, locals := 100 } : Room) s m #[(.ref a1)] below meth c T locs 0 0) (NL : Fr n0 locs) (eL : T.heap = h0), i + k = cs.length → 0 < cs.length → cs.length ≤ 127 → (∀ j, j < i → okc (cs.getD j 0)) → oG p e below (own_P s (fun v h L => v = some (.int (own_val cs)) ∧ Fr n0 L ∧ h = h0) 0 0) T (mkF m 24 #[.val (.ref a1), .val (.int (Int32.ofNat i)), s2, s3] []) := by
    intro k
    induction k with
    | zero =>
      intro i s2 s3 hs2 hs3 T locs XL NL eL hik hp0 hp1 hall
      refine oS (fun t k => XS.iloadN XL.here hx rfl (hb hby dtn_24) rfl  k) ?_
      refine oS (fun t k => XS.aloadN XL.here hx rfl (hb hby dtn_25) rfl rfl k) ?_
      show oG p e below _ T (mkF m 26 #[.val (.ref a1), .val (.int (Int32.ofNat i)), s2, s3] [(.ref a1), (.int (Int32.ofNat i))])
      refine own_callV XL hx hZ (y := (⟨"java/lang/String", "length", "()I"⟩ : MethodName)) (W := 1) (Q := (fun v h L => v = some (.int (Int32.ofNat cs.length)) ∧ L = [] ∧ h = h0)) (kc := 0) (ks := 0) hown (oW hw 46 rfl) (oW hw 47 rfl) (oW hw 49 rfl) (oW hw 48 rfl) (StrChars.Road.lenW (W := 1) hZ hln (kI := 4) (oW hw 1 rfl) E1 V1 C1 K1 hcd hbd SC hCS hl4 (by decide) (by decide)) (by decide) (b := a1) E1 (g := (mkF m 26 #[.val (.ref a1), .val (.int (Int32.ofNat i)), s2, s3] [(.ref a1), (.int (Int32.ofNat i))])) rfl (by rw [hml]; rfl) (argsL := []) (rest := [(.int (Int32.ofNat i))]) (lenOf pd_13 rfl) rfl (by show 2 * 0 + _ ≤ _; exact Nat.le_of_eq rfl) (hb hby dtn_26) rfl eL (by decide) (by decide) (fun v26 T26 L26 X26 hQ26 => ?_)
      obtain ⟨rfl, rfl, e26⟩ := hQ26
      show oG p e below _ T26 (mkF m 29 #[.val (.ref a1), .val (.int (Int32.ofNat i)), s2, s3] [(.int (Int32.ofNat cs.length)), (.int (Int32.ofNat i))])
      obtain rfl : i = cs.length := by omega
      show oG p e below _ T26 (mkF m 29 #[.val (.ref a1), .val (.int (Int32.ofNat cs.length)), s2, s3] [(.int (Int32.ofNat cs.length)), (.int (Int32.ofNat cs.length))])
      refine oS (fun t k => XS.icmpYes X26.here hx rfl (pc0 := 29) (pc' := 104) rfl (hb hby dtn_29) rfl (flt own_nge).2.1 (by decide) (by decide) k) ?_
      show oG p e below _ T26 (mkF m 104 #[.val (.ref a1), .val (.int (Int32.ofNat cs.length)), s2, s3] [])
      refine oS (fun t k => XS.iconst X26.here hx rfl (hb hby dtn_104) k) ?_
      show oG p e below _ T26 (mkF m 105 #[.val (.ref a1), .val (.int (Int32.ofNat cs.length)), s2, s3] [(.int 1)])
      refine own_retN (t := .boolean) X26 hx hlk hret (by simp) (hb hby dtn_105) ?_ (by decide) (by decide)
      rw [e26]
      exact ⟨by rw [own_val, if_pos ⟨hp0, hp1, own_allD hall⟩]; rfl, Fr.app NL (Fr.nil n0), rfl⟩
    | succ k ih =>
      intro i s2 s3 hs2 hs3 T locs XL NL eL hik hp0 hp1 hall
      refine oS (fun t k => XS.iloadN XL.here hx rfl (hb hby dtn_24) rfl  k) ?_
      refine oS (fun t k => XS.aloadN XL.here hx rfl (hb hby dtn_25) rfl rfl k) ?_
      show oG p e below _ T (mkF m 26 #[.val (.ref a1), .val (.int (Int32.ofNat i)), s2, s3] [(.ref a1), (.int (Int32.ofNat i))])
      refine own_callV XL hx hZ (y := (⟨"java/lang/String", "length", "()I"⟩ : MethodName)) (W := 1) (Q := (fun v h L => v = some (.int (Int32.ofNat cs.length)) ∧ L = [] ∧ h = h0)) (kc := 0) (ks := 0) hown (oW hw 46 rfl) (oW hw 47 rfl) (oW hw 49 rfl) (oW hw 48 rfl) (StrChars.Road.lenW (W := 1) hZ hln (kI := 4) (oW hw 1 rfl) E1 V1 C1 K1 hcd hbd SC hCS hl4 (by decide) (by decide)) (by decide) (b := a1) E1 (g := (mkF m 26 #[.val (.ref a1), .val (.int (Int32.ofNat i)), s2, s3] [(.ref a1), (.int (Int32.ofNat i))])) rfl (by rw [hml]; rfl) (argsL := []) (rest := [(.int (Int32.ofNat i))]) (lenOf pd_13 rfl) rfl (by show 2 * 0 + _ ≤ _; exact Nat.le_of_eq rfl) (hb hby dtn_26) rfl eL (by decide) (by decide) (fun v26 T26 L26 X26 hQ26 => ?_)
      obtain ⟨rfl, rfl, e26⟩ := hQ26
      show oG p e below _ T26 (mkF m 29 #[.val (.ref a1), .val (.int (Int32.ofNat i)), s2, s3] [(.int (Int32.ofNat cs.length)), (.int (Int32.ofNat i))])
      refine oS (fun t k => XS.icmpNo X26.here hx rfl (hb hby dtn_29) rfl (tlt (own_nlt (by omega : i < cs.length) (by omega))).2.1 k) ?_
      show oG p e below _ T26 (mkF m 32 #[.val (.ref a1), .val (.int (Int32.ofNat i)), s2, s3] [])
      refine oS (fun t k => XS.aloadN X26.here hx rfl (hb hby dtn_32) rfl rfl k) ?_
      refine oS (fun t k => XS.iloadN X26.here hx rfl (hb hby dtn_33) rfl  k) ?_
      show oG p e below _ T26 (mkF m 34 #[.val (.ref a1), .val (.int (Int32.ofNat i)), s2, s3] [(.int (Int32.ofNat i)), (.ref a1)])
      refine own_callV X26 hx hZ (y := (⟨"java/lang/String", "charAt", "(I)C"⟩ : MethodName)) (W := 0) (Q := (fun v h L => v = some (.int (cs.getD i 0)) ∧ Fr n0 L ∧ h = h0)) (kc := 0) (ks := 0) hown (oW hw 56 rfl) (oW hw 57 rfl) (oW hw 59 rfl) (oW hw 58 rfl) (pays i (by omega)) (by decide) (b := a1) E1 (g := (mkF m 34 #[.val (.ref a1), .val (.int (Int32.ofNat i)), s2, s3] [(.int (Int32.ofNat i)), (.ref a1)])) rfl (by rw [hml]; rfl) (argsL := [(.int (Int32.ofNat i))]) (rest := []) (lenOf pd_14 rfl) rfl (by show 2 * 0 + _ ≤ _; exact Nat.le_of_eq rfl) (hb hby dtn_34) rfl e26 (by decide) (by decide) (fun v34 T34 L34 X34 hQ34 => ?_)
      obtain ⟨rfl, M34, e34⟩ := hQ34
      have hmem : cs.getD i 0 ∈ cs := by
        have hi : i < cs.length := by omega
        rw [List.getD_eq_getElem?_getD, List.getElem?_eq_getElem hi]
        exact List.getElem_mem hi
      have hnext : okc (cs.getD i 0) → ∀ j, j < i + 1 → okc (cs.getD j 0) := fun q j hj => by
        rcases Nat.lt_or_ge j i with hh | hh
        · exact hall j hh
        · obtain rfl : j = i := by omega
          exact q
      have hbad : ¬ okc (cs.getD i 0) → own_val cs = 0 := fun q => by rw [own_val, if_neg fun r => q (r.2.2 _ hmem)]
      generalize cs.getD i 0 = ci at hnext hbad hmem
      show oG p e below _ T34 (mkF m 37 #[.val (.ref a1), .val (.int (Int32.ofNat i)), s2, s3] [(.int ci)])
      refine oS (fun t k => XS.istoreN X34.here hx rfl (hb hby dtn_37) rfl (l' := #[.val (.ref a1), .val (.int (Int32.ofNat i)), .val (.int ci), s3]) (XS.store1 rfl hs2 rfl) k) ?_
      show oG p e below _ T34 (mkF m 38 #[.val (.ref a1), .val (.int (Int32.ofNat i)), .val (.int ci), s3] [])
      refine oS (fun t k => XS.iloadN X34.here hx rfl (hb hby dtn_38) rfl  k) ?_
      refine oS (fun t k => XS.bipush X34.here hx rfl (hb hby dtn_39) k) ?_
      show oG p e below _ T34 (mkF m 41 #[.val (.ref a1), .val (.int (Int32.ofNat i)), .val (.int ci), s3] [(.int 97), (.int ci)])
      rcases own_cls ci with ⟨u1, u2⟩ | ⟨u1, u2, u3, u4, u5, u6, u7, u8⟩ | ⟨u1, u2, u3, u4, u5, u6, u7⟩ | rfl | ⟨u1, u2, u3⟩ | ⟨u1, u2, u3, u4, u5, u6⟩ | ⟨u1, u2, u3, u4⟩ | ⟨u1, u2, u3, u4, u5⟩ | rfl
      · refine oS (fun t k => XS.icmpNo X34.here hx rfl (hb hby dtn_41) rfl (flt u1).1 k) ?_
        show oG p e below _ T34 (mkF m 44 #[.val (.ref a1), .val (.int (Int32.ofNat i)), .val (.int ci), s3] [])
        refine oS (fun t k => XS.iloadN X34.here hx rfl (hb hby dtn_44) rfl  k) ?_
        refine oS (fun t k => XS.bipush X34.here hx rfl (hb hby dtn_45) k) ?_
        show oG p e below _ T34 (mkF m 47 #[.val (.ref a1), .val (.int (Int32.ofNat i)), .val (.int ci), s3] [(.int 122), (.int ci)])
        refine oS (fun t k => XS.icmpYes X34.here hx rfl (pc0 := 47) (pc' := 86) rfl (hb hby dtn_47) rfl (flt u2).2.2.2 (by decide) (by decide) k) ?_
        show oG p e below _ T34 (mkF m 86 #[.val (.ref a1), .val (.int (Int32.ofNat i)), .val (.int ci), s3] [])
        refine oS (fun t k => XS.iconst X34.here hx rfl (hb hby dtn_86) k) ?_
        refine oS (fun t k => XS.goto X34.here hx rfl (pc0 := 87) (pc' := 91) rfl (hb hby dtn_87) (by decide) (by decide) k) ?_
        show oG p e below _ T34 (mkF m 91 #[.val (.ref a1), .val (.int (Int32.ofNat i)), .val (.int ci), s3] [(.int 1)])
        refine oS (fun t k => XS.istoreN X34.here hx rfl (hb hby dtn_91) rfl (l' := #[.val (.ref a1), .val (.int (Int32.ofNat i)), .val (.int ci), .val (.int 1)]) (XS.store1 rfl hs3 rfl) k) ?_
        show oG p e below _ T34 (mkF m 92 #[.val (.ref a1), .val (.int (Int32.ofNat i)), .val (.int ci), .val (.int 1)] [])
        refine oS (fun t k => XS.iloadN X34.here hx rfl (hb hby dtn_92) rfl  k) ?_
        show oG p e below _ T34 (mkF m 93 #[.val (.ref a1), .val (.int (Int32.ofNat i)), .val (.int ci), .val (.int 1)] [(.int 1)])
        refine oS (fun t k => XS.ifYes X34.here hx rfl (pc0 := 93) (pc' := 98) rfl (hb hby dtn_93) rfl ((if0 _ _).trans (feq (by decide : ¬ ((1 : Int32) = 0))).2) (by decide) (by decide) k) ?_
        show oG p e below _ T34 (mkF m 98 #[.val (.ref a1), .val (.int (Int32.ofNat i)), .val (.int ci), .val (.int 1)] [])
        refine oS (fun t k => XS.iinc X34.here hx rfl (hb hby dtn_98) rfl (l' := #[.val (.ref a1), .val (.int ((Int32.ofNat i) + (1 : Int32))), .val (.int ci), .val (.int 1)]) rfl k) ?_
        show oG p e below _ T34 (mkF m 101 #[.val (.ref a1), .val (.int ((Int32.ofNat i) + (1 : Int32))), .val (.int ci), .val (.int 1)] [])
        rw [own_one]
        show oG p e below _ T34 (mkF m 101 #[.val (.ref a1), .val (.int (Int32.ofNat (i + 1))), .val (.int ci), .val (.int 1)] [])
        refine oS (fun t k => XS.goto X34.here hx rfl (pc0 := 101) (pc' := 24) rfl (hb hby dtn_101) (by decide) (by decide) k) ?_
        show oG p e below _ T34 (mkF m 24 #[.val (.ref a1), .val (.int (Int32.ofNat (i + 1))), .val (.int ci), .val (.int 1)] [])
        exact ih (i + 1) _ _ (One.val rfl) (One.val rfl) _ _ X34 (Fr.app (Fr.app NL (Fr.nil n0)) M34) e34 (by omega) hp0 hp1 (hnext (own_ok1 ⟨u1, u2⟩))
      · refine oS (fun t k => XS.icmpNo X34.here hx rfl (hb hby dtn_41) rfl (flt u1).1 k) ?_
        show oG p e below _ T34 (mkF m 44 #[.val (.ref a1), .val (.int (Int32.ofNat i)), .val (.int ci), s3] [])
        refine oS (fun t k => XS.iloadN X34.here hx rfl (hb hby dtn_44) rfl  k) ?_
        refine oS (fun t k => XS.bipush X34.here hx rfl (hb hby dtn_45) k) ?_
        show oG p e below _ T34 (mkF m 47 #[.val (.ref a1), .val (.int (Int32.ofNat i)), .val (.int ci), s3] [(.int 122), (.int ci)])
        refine oS (fun t k => XS.icmpNo X34.here hx rfl (hb hby dtn_47) rfl (tlt u2).2.2.2 k) ?_
        show oG p e below _ T34 (mkF m 50 #[.val (.ref a1), .val (.int (Int32.ofNat i)), .val (.int ci), s3] [])
        refine oS (fun t k => XS.iloadN X34.here hx rfl (hb hby dtn_50) rfl  k) ?_
        refine oS (fun t k => XS.bipush X34.here hx rfl (hb hby dtn_51) k) ?_
        show oG p e below _ T34 (mkF m 53 #[.val (.ref a1), .val (.int (Int32.ofNat i)), .val (.int ci), s3] [(.int 65), (.int ci)])
        refine oS (fun t k => XS.icmpNo X34.here hx rfl (hb hby dtn_53) rfl (flt u3).1 k) ?_
        show oG p e below _ T34 (mkF m 56 #[.val (.ref a1), .val (.int (Int32.ofNat i)), .val (.int ci), s3] [])
        refine oS (fun t k => XS.iloadN X34.here hx rfl (hb hby dtn_56) rfl  k) ?_
        refine oS (fun t k => XS.bipush X34.here hx rfl (hb hby dtn_57) k) ?_
        show oG p e below _ T34 (mkF m 59 #[.val (.ref a1), .val (.int (Int32.ofNat i)), .val (.int ci), s3] [(.int 90), (.int ci)])
        refine oS (fun t k => XS.icmpNo X34.here hx rfl (hb hby dtn_59) rfl (tlt u4).2.2.2 k) ?_
        show oG p e below _ T34 (mkF m 62 #[.val (.ref a1), .val (.int (Int32.ofNat i)), .val (.int ci), s3] [])
        refine oS (fun t k => XS.iloadN X34.here hx rfl (hb hby dtn_62) rfl  k) ?_
        refine oS (fun t k => XS.bipush X34.here hx rfl (hb hby dtn_63) k) ?_
        show oG p e below _ T34 (mkF m 65 #[.val (.ref a1), .val (.int (Int32.ofNat i)), .val (.int ci), s3] [(.int 48), (.int ci)])
        refine oS (fun t k => XS.icmpNo X34.here hx rfl (hb hby dtn_65) rfl (flt u5).1 k) ?_
        show oG p e below _ T34 (mkF m 68 #[.val (.ref a1), .val (.int (Int32.ofNat i)), .val (.int ci), s3] [])
        refine oS (fun t k => XS.iloadN X34.here hx rfl (hb hby dtn_68) rfl  k) ?_
        refine oS (fun t k => XS.bipush X34.here hx rfl (hb hby dtn_69) k) ?_
        show oG p e below _ T34 (mkF m 71 #[.val (.ref a1), .val (.int (Int32.ofNat i)), .val (.int ci), s3] [(.int 57), (.int ci)])
        refine oS (fun t k => XS.icmpNo X34.here hx rfl (hb hby dtn_71) rfl (tlt u6).2.2.2 k) ?_
        show oG p e below _ T34 (mkF m 74 #[.val (.ref a1), .val (.int (Int32.ofNat i)), .val (.int ci), s3] [])
        refine oS (fun t k => XS.iloadN X34.here hx rfl (hb hby dtn_74) rfl  k) ?_
        refine oS (fun t k => XS.bipush X34.here hx rfl (hb hby dtn_75) k) ?_
        show oG p e below _ T34 (mkF m 77 #[.val (.ref a1), .val (.int (Int32.ofNat i)), .val (.int ci), s3] [(.int 95), (.int ci)])
        refine oS (fun t k => XS.icmpNo X34.here hx rfl (hb hby dtn_77) rfl (feq u7).1 k) ?_
        show oG p e below _ T34 (mkF m 80 #[.val (.ref a1), .val (.int (Int32.ofNat i)), .val (.int ci), s3] [])
        refine oS (fun t k => XS.iloadN X34.here hx rfl (hb hby dtn_80) rfl  k) ?_
        refine oS (fun t k => XS.bipush X34.here hx rfl (hb hby dtn_81) k) ?_
        show oG p e below _ T34 (mkF m 83 #[.val (.ref a1), .val (.int (Int32.ofNat i)), .val (.int ci), s3] [(.int 45), (.int ci)])
        refine oS (fun t k => XS.icmpYes X34.here hx rfl (pc0 := 83) (pc' := 90) rfl (hb hby dtn_83) rfl (feq u8).2 (by decide) (by decide) k) ?_
        show oG p e below _ T34 (mkF m 90 #[.val (.ref a1), .val (.int (Int32.ofNat i)), .val (.int ci), s3] [])
        refine oS (fun t k => XS.iconst X34.here hx rfl (hb hby dtn_90) k) ?_
        refine oS (fun t k => XS.istoreN X34.here hx rfl (hb hby dtn_91) rfl (l' := #[.val (.ref a1), .val (.int (Int32.ofNat i)), .val (.int ci), .val (.int 0)]) (XS.store1 rfl hs3 rfl) k) ?_
        show oG p e below _ T34 (mkF m 92 #[.val (.ref a1), .val (.int (Int32.ofNat i)), .val (.int ci), .val (.int 0)] [])
        refine oS (fun t k => XS.iloadN X34.here hx rfl (hb hby dtn_92) rfl  k) ?_
        show oG p e below _ T34 (mkF m 93 #[.val (.ref a1), .val (.int (Int32.ofNat i)), .val (.int ci), .val (.int 0)] [(.int 0)])
        refine oS (fun t k => XS.ifNo X34.here hx rfl (hb hby dtn_93) rfl ((if0 _ _).trans (teq (rfl : (0 : Int32) = 0)).2) k) ?_
        show oG p e below _ T34 (mkF m 96 #[.val (.ref a1), .val (.int (Int32.ofNat i)), .val (.int ci), .val (.int 0)] [])
        refine oS (fun t k => XS.iconst X34.here hx rfl (hb hby dtn_96) k) ?_
        show oG p e below _ T34 (mkF m 97 #[.val (.ref a1), .val (.int (Int32.ofNat i)), .val (.int ci), .val (.int 0)] [(.int 0)])
        refine own_retN (t := .boolean) X34 hx hlk hret (by simp) (hb hby dtn_97) ?_ (by decide) (by decide)
        rw [e34]
        exact ⟨by rw [hbad (own_no2 ⟨u1, u2, u3, u4, u5, u6, u7, u8⟩)]; rfl, Fr.app (Fr.app NL (Fr.nil n0)) M34, rfl⟩
      · refine oS (fun t k => XS.icmpYes X34.here hx rfl (pc0 := 41) (pc' := 50) rfl (hb hby dtn_41) rfl (tlt u1).1 (by decide) (by decide) k) ?_
        show oG p e below _ T34 (mkF m 50 #[.val (.ref a1), .val (.int (Int32.ofNat i)), .val (.int ci), s3] [])
        refine oS (fun t k => XS.iloadN X34.here hx rfl (hb hby dtn_50) rfl  k) ?_
        refine oS (fun t k => XS.bipush X34.here hx rfl (hb hby dtn_51) k) ?_
        show oG p e below _ T34 (mkF m 53 #[.val (.ref a1), .val (.int (Int32.ofNat i)), .val (.int ci), s3] [(.int 65), (.int ci)])
        refine oS (fun t k => XS.icmpNo X34.here hx rfl (hb hby dtn_53) rfl (flt u2).1 k) ?_
        show oG p e below _ T34 (mkF m 56 #[.val (.ref a1), .val (.int (Int32.ofNat i)), .val (.int ci), s3] [])
        refine oS (fun t k => XS.iloadN X34.here hx rfl (hb hby dtn_56) rfl  k) ?_
        refine oS (fun t k => XS.bipush X34.here hx rfl (hb hby dtn_57) k) ?_
        show oG p e below _ T34 (mkF m 59 #[.val (.ref a1), .val (.int (Int32.ofNat i)), .val (.int ci), s3] [(.int 90), (.int ci)])
        refine oS (fun t k => XS.icmpNo X34.here hx rfl (hb hby dtn_59) rfl (tlt u3).2.2.2 k) ?_
        show oG p e below _ T34 (mkF m 62 #[.val (.ref a1), .val (.int (Int32.ofNat i)), .val (.int ci), s3] [])
        refine oS (fun t k => XS.iloadN X34.here hx rfl (hb hby dtn_62) rfl  k) ?_
        refine oS (fun t k => XS.bipush X34.here hx rfl (hb hby dtn_63) k) ?_
        show oG p e below _ T34 (mkF m 65 #[.val (.ref a1), .val (.int (Int32.ofNat i)), .val (.int ci), s3] [(.int 48), (.int ci)])
        refine oS (fun t k => XS.icmpNo X34.here hx rfl (hb hby dtn_65) rfl (flt u4).1 k) ?_
        show oG p e below _ T34 (mkF m 68 #[.val (.ref a1), .val (.int (Int32.ofNat i)), .val (.int ci), s3] [])
        refine oS (fun t k => XS.iloadN X34.here hx rfl (hb hby dtn_68) rfl  k) ?_
        refine oS (fun t k => XS.bipush X34.here hx rfl (hb hby dtn_69) k) ?_
        show oG p e below _ T34 (mkF m 71 #[.val (.ref a1), .val (.int (Int32.ofNat i)), .val (.int ci), s3] [(.int 57), (.int ci)])
        refine oS (fun t k => XS.icmpNo X34.here hx rfl (hb hby dtn_71) rfl (tlt u5).2.2.2 k) ?_
        show oG p e below _ T34 (mkF m 74 #[.val (.ref a1), .val (.int (Int32.ofNat i)), .val (.int ci), s3] [])
        refine oS (fun t k => XS.iloadN X34.here hx rfl (hb hby dtn_74) rfl  k) ?_
        refine oS (fun t k => XS.bipush X34.here hx rfl (hb hby dtn_75) k) ?_
        show oG p e below _ T34 (mkF m 77 #[.val (.ref a1), .val (.int (Int32.ofNat i)), .val (.int ci), s3] [(.int 95), (.int ci)])
        refine oS (fun t k => XS.icmpNo X34.here hx rfl (hb hby dtn_77) rfl (feq u6).1 k) ?_
        show oG p e below _ T34 (mkF m 80 #[.val (.ref a1), .val (.int (Int32.ofNat i)), .val (.int ci), s3] [])
        refine oS (fun t k => XS.iloadN X34.here hx rfl (hb hby dtn_80) rfl  k) ?_
        refine oS (fun t k => XS.bipush X34.here hx rfl (hb hby dtn_81) k) ?_
        show oG p e below _ T34 (mkF m 83 #[.val (.ref a1), .val (.int (Int32.ofNat i)), .val (.int ci), s3] [(.int 45), (.int ci)])
        refine oS (fun t k => XS.icmpYes X34.here hx rfl (pc0 := 83) (pc' := 90) rfl (hb hby dtn_83) rfl (feq u7).2 (by decide) (by decide) k) ?_
        show oG p e below _ T34 (mkF m 90 #[.val (.ref a1), .val (.int (Int32.ofNat i)), .val (.int ci), s3] [])
        refine oS (fun t k => XS.iconst X34.here hx rfl (hb hby dtn_90) k) ?_
        refine oS (fun t k => XS.istoreN X34.here hx rfl (hb hby dtn_91) rfl (l' := #[.val (.ref a1), .val (.int (Int32.ofNat i)), .val (.int ci), .val (.int 0)]) (XS.store1 rfl hs3 rfl) k) ?_
        show oG p e below _ T34 (mkF m 92 #[.val (.ref a1), .val (.int (Int32.ofNat i)), .val (.int ci), .val (.int 0)] [])
        refine oS (fun t k => XS.iloadN X34.here hx rfl (hb hby dtn_92) rfl  k) ?_
        show oG p e below _ T34 (mkF m 93 #[.val (.ref a1), .val (.int (Int32.ofNat i)), .val (.int ci), .val (.int 0)] [(.int 0)])
        refine oS (fun t k => XS.ifNo X34.here hx rfl (hb hby dtn_93) rfl ((if0 _ _).trans (teq (rfl : (0 : Int32) = 0)).2) k) ?_
        show oG p e below _ T34 (mkF m 96 #[.val (.ref a1), .val (.int (Int32.ofNat i)), .val (.int ci), .val (.int 0)] [])
        refine oS (fun t k => XS.iconst X34.here hx rfl (hb hby dtn_96) k) ?_
        show oG p e below _ T34 (mkF m 97 #[.val (.ref a1), .val (.int (Int32.ofNat i)), .val (.int ci), .val (.int 0)] [(.int 0)])
        refine own_retN (t := .boolean) X34 hx hlk hret (by simp) (hb hby dtn_97) ?_ (by decide) (by decide)
        rw [e34]
        exact ⟨by rw [hbad (own_no3 ⟨u1, u2, u3, u4, u5, u6, u7⟩)]; rfl, Fr.app (Fr.app NL (Fr.nil n0)) M34, rfl⟩
      · show oG p e below _ T34 (mkF m 41 #[.val (.ref a1), .val (.int (Int32.ofNat i)), .val (.int 95), s3] [(.int 97), (.int 95)])
        refine oS (fun t k => XS.icmpYes X34.here hx rfl (pc0 := 41) (pc' := 50) rfl (hb hby dtn_41) rfl (tlt (by decide : (95 : Int32) < 97)).1 (by decide) (by decide) k) ?_
        show oG p e below _ T34 (mkF m 50 #[.val (.ref a1), .val (.int (Int32.ofNat i)), .val (.int 95), s3] [])
        refine oS (fun t k => XS.iloadN X34.here hx rfl (hb hby dtn_50) rfl  k) ?_
        refine oS (fun t k => XS.bipush X34.here hx rfl (hb hby dtn_51) k) ?_
        show oG p e below _ T34 (mkF m 53 #[.val (.ref a1), .val (.int (Int32.ofNat i)), .val (.int 95), s3] [(.int 65), (.int 95)])
        refine oS (fun t k => XS.icmpNo X34.here hx rfl (hb hby dtn_53) rfl (flt (by decide : ¬ (95 : Int32) < 65)).1 k) ?_
        show oG p e below _ T34 (mkF m 56 #[.val (.ref a1), .val (.int (Int32.ofNat i)), .val (.int 95), s3] [])
        refine oS (fun t k => XS.iloadN X34.here hx rfl (hb hby dtn_56) rfl  k) ?_
        refine oS (fun t k => XS.bipush X34.here hx rfl (hb hby dtn_57) k) ?_
        show oG p e below _ T34 (mkF m 59 #[.val (.ref a1), .val (.int (Int32.ofNat i)), .val (.int 95), s3] [(.int 90), (.int 95)])
        refine oS (fun t k => XS.icmpNo X34.here hx rfl (hb hby dtn_59) rfl (tlt (by decide : (90 : Int32) < 95)).2.2.2 k) ?_
        show oG p e below _ T34 (mkF m 62 #[.val (.ref a1), .val (.int (Int32.ofNat i)), .val (.int 95), s3] [])
        refine oS (fun t k => XS.iloadN X34.here hx rfl (hb hby dtn_62) rfl  k) ?_
        refine oS (fun t k => XS.bipush X34.here hx rfl (hb hby dtn_63) k) ?_
        show oG p e below _ T34 (mkF m 65 #[.val (.ref a1), .val (.int (Int32.ofNat i)), .val (.int 95), s3] [(.int 48), (.int 95)])
        refine oS (fun t k => XS.icmpNo X34.here hx rfl (hb hby dtn_65) rfl (flt (by decide : ¬ (95 : Int32) < 48)).1 k) ?_
        show oG p e below _ T34 (mkF m 68 #[.val (.ref a1), .val (.int (Int32.ofNat i)), .val (.int 95), s3] [])
        refine oS (fun t k => XS.iloadN X34.here hx rfl (hb hby dtn_68) rfl  k) ?_
        refine oS (fun t k => XS.bipush X34.here hx rfl (hb hby dtn_69) k) ?_
        show oG p e below _ T34 (mkF m 71 #[.val (.ref a1), .val (.int (Int32.ofNat i)), .val (.int 95), s3] [(.int 57), (.int 95)])
        refine oS (fun t k => XS.icmpNo X34.here hx rfl (hb hby dtn_71) rfl (tlt (by decide : (57 : Int32) < 95)).2.2.2 k) ?_
        show oG p e below _ T34 (mkF m 74 #[.val (.ref a1), .val (.int (Int32.ofNat i)), .val (.int 95), s3] [])
        refine oS (fun t k => XS.iloadN X34.here hx rfl (hb hby dtn_74) rfl  k) ?_
        refine oS (fun t k => XS.bipush X34.here hx rfl (hb hby dtn_75) k) ?_
        show oG p e below _ T34 (mkF m 77 #[.val (.ref a1), .val (.int (Int32.ofNat i)), .val (.int 95), s3] [(.int 95), (.int 95)])
        refine oS (fun t k => XS.icmpYes X34.here hx rfl (pc0 := 77) (pc' := 86) rfl (hb hby dtn_77) rfl (teq (rfl : (95 : Int32) = 95)).1 (by decide) (by decide) k) ?_
        show oG p e below _ T34 (mkF m 86 #[.val (.ref a1), .val (.int (Int32.ofNat i)), .val (.int 95), s3] [])
        refine oS (fun t k => XS.iconst X34.here hx rfl (hb hby dtn_86) k) ?_
        refine oS (fun t k => XS.goto X34.here hx rfl (pc0 := 87) (pc' := 91) rfl (hb hby dtn_87) (by decide) (by decide) k) ?_
        show oG p e below _ T34 (mkF m 91 #[.val (.ref a1), .val (.int (Int32.ofNat i)), .val (.int 95), s3] [(.int 1)])
        refine oS (fun t k => XS.istoreN X34.here hx rfl (hb hby dtn_91) rfl (l' := #[.val (.ref a1), .val (.int (Int32.ofNat i)), .val (.int 95), .val (.int 1)]) (XS.store1 rfl hs3 rfl) k) ?_
        show oG p e below _ T34 (mkF m 92 #[.val (.ref a1), .val (.int (Int32.ofNat i)), .val (.int 95), .val (.int 1)] [])
        refine oS (fun t k => XS.iloadN X34.here hx rfl (hb hby dtn_92) rfl  k) ?_
        show oG p e below _ T34 (mkF m 93 #[.val (.ref a1), .val (.int (Int32.ofNat i)), .val (.int 95), .val (.int 1)] [(.int 1)])
        refine oS (fun t k => XS.ifYes X34.here hx rfl (pc0 := 93) (pc' := 98) rfl (hb hby dtn_93) rfl ((if0 _ _).trans (feq (by decide : ¬ ((1 : Int32) = 0))).2) (by decide) (by decide) k) ?_
        show oG p e below _ T34 (mkF m 98 #[.val (.ref a1), .val (.int (Int32.ofNat i)), .val (.int 95), .val (.int 1)] [])
        refine oS (fun t k => XS.iinc X34.here hx rfl (hb hby dtn_98) rfl (l' := #[.val (.ref a1), .val (.int ((Int32.ofNat i) + (1 : Int32))), .val (.int 95), .val (.int 1)]) rfl k) ?_
        show oG p e below _ T34 (mkF m 101 #[.val (.ref a1), .val (.int ((Int32.ofNat i) + (1 : Int32))), .val (.int 95), .val (.int 1)] [])
        rw [own_one]
        show oG p e below _ T34 (mkF m 101 #[.val (.ref a1), .val (.int (Int32.ofNat (i + 1))), .val (.int 95), .val (.int 1)] [])
        refine oS (fun t k => XS.goto X34.here hx rfl (pc0 := 101) (pc' := 24) rfl (hb hby dtn_101) (by decide) (by decide) k) ?_
        show oG p e below _ T34 (mkF m 24 #[.val (.ref a1), .val (.int (Int32.ofNat (i + 1))), .val (.int 95), .val (.int 1)] [])
        exact ih (i + 1) _ _ (One.val rfl) (One.val rfl) _ _ X34 (Fr.app (Fr.app NL (Fr.nil n0)) M34) e34 (by omega) hp0 hp1 (hnext ((by decide : okc 95)))
      · refine oS (fun t k => XS.icmpYes X34.here hx rfl (pc0 := 41) (pc' := 50) rfl (hb hby dtn_41) rfl (tlt u1).1 (by decide) (by decide) k) ?_
        show oG p e below _ T34 (mkF m 50 #[.val (.ref a1), .val (.int (Int32.ofNat i)), .val (.int ci), s3] [])
        refine oS (fun t k => XS.iloadN X34.here hx rfl (hb hby dtn_50) rfl  k) ?_
        refine oS (fun t k => XS.bipush X34.here hx rfl (hb hby dtn_51) k) ?_
        show oG p e below _ T34 (mkF m 53 #[.val (.ref a1), .val (.int (Int32.ofNat i)), .val (.int ci), s3] [(.int 65), (.int ci)])
        refine oS (fun t k => XS.icmpNo X34.here hx rfl (hb hby dtn_53) rfl (flt u2).1 k) ?_
        show oG p e below _ T34 (mkF m 56 #[.val (.ref a1), .val (.int (Int32.ofNat i)), .val (.int ci), s3] [])
        refine oS (fun t k => XS.iloadN X34.here hx rfl (hb hby dtn_56) rfl  k) ?_
        refine oS (fun t k => XS.bipush X34.here hx rfl (hb hby dtn_57) k) ?_
        show oG p e below _ T34 (mkF m 59 #[.val (.ref a1), .val (.int (Int32.ofNat i)), .val (.int ci), s3] [(.int 90), (.int ci)])
        refine oS (fun t k => XS.icmpYes X34.here hx rfl (pc0 := 59) (pc' := 86) rfl (hb hby dtn_59) rfl (flt u3).2.2.2 (by decide) (by decide) k) ?_
        show oG p e below _ T34 (mkF m 86 #[.val (.ref a1), .val (.int (Int32.ofNat i)), .val (.int ci), s3] [])
        refine oS (fun t k => XS.iconst X34.here hx rfl (hb hby dtn_86) k) ?_
        refine oS (fun t k => XS.goto X34.here hx rfl (pc0 := 87) (pc' := 91) rfl (hb hby dtn_87) (by decide) (by decide) k) ?_
        show oG p e below _ T34 (mkF m 91 #[.val (.ref a1), .val (.int (Int32.ofNat i)), .val (.int ci), s3] [(.int 1)])
        refine oS (fun t k => XS.istoreN X34.here hx rfl (hb hby dtn_91) rfl (l' := #[.val (.ref a1), .val (.int (Int32.ofNat i)), .val (.int ci), .val (.int 1)]) (XS.store1 rfl hs3 rfl) k) ?_
        show oG p e below _ T34 (mkF m 92 #[.val (.ref a1), .val (.int (Int32.ofNat i)), .val (.int ci), .val (.int 1)] [])
        refine oS (fun t k => XS.iloadN X34.here hx rfl (hb hby dtn_92) rfl  k) ?_
        show oG p e below _ T34 (mkF m 93 #[.val (.ref a1), .val (.int (Int32.ofNat i)), .val (.int ci), .val (.int 1)] [(.int 1)])
        refine oS (fun t k => XS.ifYes X34.here hx rfl (pc0 := 93) (pc' := 98) rfl (hb hby dtn_93) rfl ((if0 _ _).trans (feq (by decide : ¬ ((1 : Int32) = 0))).2) (by decide) (by decide) k) ?_
        show oG p e below _ T34 (mkF m 98 #[.val (.ref a1), .val (.int (Int32.ofNat i)), .val (.int ci), .val (.int 1)] [])
        refine oS (fun t k => XS.iinc X34.here hx rfl (hb hby dtn_98) rfl (l' := #[.val (.ref a1), .val (.int ((Int32.ofNat i) + (1 : Int32))), .val (.int ci), .val (.int 1)]) rfl k) ?_
        show oG p e below _ T34 (mkF m 101 #[.val (.ref a1), .val (.int ((Int32.ofNat i) + (1 : Int32))), .val (.int ci), .val (.int 1)] [])
        rw [own_one]
        show oG p e below _ T34 (mkF m 101 #[.val (.ref a1), .val (.int (Int32.ofNat (i + 1))), .val (.int ci), .val (.int 1)] [])
        refine oS (fun t k => XS.goto X34.here hx rfl (pc0 := 101) (pc' := 24) rfl (hb hby dtn_101) (by decide) (by decide) k) ?_
        show oG p e below _ T34 (mkF m 24 #[.val (.ref a1), .val (.int (Int32.ofNat (i + 1))), .val (.int ci), .val (.int 1)] [])
        exact ih (i + 1) _ _ (One.val rfl) (One.val rfl) _ _ X34 (Fr.app (Fr.app NL (Fr.nil n0)) M34) e34 (by omega) hp0 hp1 (hnext (own_ok5 ⟨u1, u2, u3⟩))
      · refine oS (fun t k => XS.icmpYes X34.here hx rfl (pc0 := 41) (pc' := 50) rfl (hb hby dtn_41) rfl (tlt u1).1 (by decide) (by decide) k) ?_
        show oG p e below _ T34 (mkF m 50 #[.val (.ref a1), .val (.int (Int32.ofNat i)), .val (.int ci), s3] [])
        refine oS (fun t k => XS.iloadN X34.here hx rfl (hb hby dtn_50) rfl  k) ?_
        refine oS (fun t k => XS.bipush X34.here hx rfl (hb hby dtn_51) k) ?_
        show oG p e below _ T34 (mkF m 53 #[.val (.ref a1), .val (.int (Int32.ofNat i)), .val (.int ci), s3] [(.int 65), (.int ci)])
        refine oS (fun t k => XS.icmpYes X34.here hx rfl (pc0 := 53) (pc' := 62) rfl (hb hby dtn_53) rfl (tlt u2).1 (by decide) (by decide) k) ?_
        show oG p e below _ T34 (mkF m 62 #[.val (.ref a1), .val (.int (Int32.ofNat i)), .val (.int ci), s3] [])
        refine oS (fun t k => XS.iloadN X34.here hx rfl (hb hby dtn_62) rfl  k) ?_
        refine oS (fun t k => XS.bipush X34.here hx rfl (hb hby dtn_63) k) ?_
        show oG p e below _ T34 (mkF m 65 #[.val (.ref a1), .val (.int (Int32.ofNat i)), .val (.int ci), s3] [(.int 48), (.int ci)])
        refine oS (fun t k => XS.icmpNo X34.here hx rfl (hb hby dtn_65) rfl (flt u3).1 k) ?_
        show oG p e below _ T34 (mkF m 68 #[.val (.ref a1), .val (.int (Int32.ofNat i)), .val (.int ci), s3] [])
        refine oS (fun t k => XS.iloadN X34.here hx rfl (hb hby dtn_68) rfl  k) ?_
        refine oS (fun t k => XS.bipush X34.here hx rfl (hb hby dtn_69) k) ?_
        show oG p e below _ T34 (mkF m 71 #[.val (.ref a1), .val (.int (Int32.ofNat i)), .val (.int ci), s3] [(.int 57), (.int ci)])
        refine oS (fun t k => XS.icmpNo X34.here hx rfl (hb hby dtn_71) rfl (tlt u4).2.2.2 k) ?_
        show oG p e below _ T34 (mkF m 74 #[.val (.ref a1), .val (.int (Int32.ofNat i)), .val (.int ci), s3] [])
        refine oS (fun t k => XS.iloadN X34.here hx rfl (hb hby dtn_74) rfl  k) ?_
        refine oS (fun t k => XS.bipush X34.here hx rfl (hb hby dtn_75) k) ?_
        show oG p e below _ T34 (mkF m 77 #[.val (.ref a1), .val (.int (Int32.ofNat i)), .val (.int ci), s3] [(.int 95), (.int ci)])
        refine oS (fun t k => XS.icmpNo X34.here hx rfl (hb hby dtn_77) rfl (feq u5).1 k) ?_
        show oG p e below _ T34 (mkF m 80 #[.val (.ref a1), .val (.int (Int32.ofNat i)), .val (.int ci), s3] [])
        refine oS (fun t k => XS.iloadN X34.here hx rfl (hb hby dtn_80) rfl  k) ?_
        refine oS (fun t k => XS.bipush X34.here hx rfl (hb hby dtn_81) k) ?_
        show oG p e below _ T34 (mkF m 83 #[.val (.ref a1), .val (.int (Int32.ofNat i)), .val (.int ci), s3] [(.int 45), (.int ci)])
        refine oS (fun t k => XS.icmpYes X34.here hx rfl (pc0 := 83) (pc' := 90) rfl (hb hby dtn_83) rfl (feq u6).2 (by decide) (by decide) k) ?_
        show oG p e below _ T34 (mkF m 90 #[.val (.ref a1), .val (.int (Int32.ofNat i)), .val (.int ci), s3] [])
        refine oS (fun t k => XS.iconst X34.here hx rfl (hb hby dtn_90) k) ?_
        refine oS (fun t k => XS.istoreN X34.here hx rfl (hb hby dtn_91) rfl (l' := #[.val (.ref a1), .val (.int (Int32.ofNat i)), .val (.int ci), .val (.int 0)]) (XS.store1 rfl hs3 rfl) k) ?_
        show oG p e below _ T34 (mkF m 92 #[.val (.ref a1), .val (.int (Int32.ofNat i)), .val (.int ci), .val (.int 0)] [])
        refine oS (fun t k => XS.iloadN X34.here hx rfl (hb hby dtn_92) rfl  k) ?_
        show oG p e below _ T34 (mkF m 93 #[.val (.ref a1), .val (.int (Int32.ofNat i)), .val (.int ci), .val (.int 0)] [(.int 0)])
        refine oS (fun t k => XS.ifNo X34.here hx rfl (hb hby dtn_93) rfl ((if0 _ _).trans (teq (rfl : (0 : Int32) = 0)).2) k) ?_
        show oG p e below _ T34 (mkF m 96 #[.val (.ref a1), .val (.int (Int32.ofNat i)), .val (.int ci), .val (.int 0)] [])
        refine oS (fun t k => XS.iconst X34.here hx rfl (hb hby dtn_96) k) ?_
        show oG p e below _ T34 (mkF m 97 #[.val (.ref a1), .val (.int (Int32.ofNat i)), .val (.int ci), .val (.int 0)] [(.int 0)])
        refine own_retN (t := .boolean) X34 hx hlk hret (by simp) (hb hby dtn_97) ?_ (by decide) (by decide)
        rw [e34]
        exact ⟨by rw [hbad (own_no6 ⟨u1, u2, u3, u4, u5, u6⟩)]; rfl, Fr.app (Fr.app NL (Fr.nil n0)) M34, rfl⟩
      · refine oS (fun t k => XS.icmpYes X34.here hx rfl (pc0 := 41) (pc' := 50) rfl (hb hby dtn_41) rfl (tlt u1).1 (by decide) (by decide) k) ?_
        show oG p e below _ T34 (mkF m 50 #[.val (.ref a1), .val (.int (Int32.ofNat i)), .val (.int ci), s3] [])
        refine oS (fun t k => XS.iloadN X34.here hx rfl (hb hby dtn_50) rfl  k) ?_
        refine oS (fun t k => XS.bipush X34.here hx rfl (hb hby dtn_51) k) ?_
        show oG p e below _ T34 (mkF m 53 #[.val (.ref a1), .val (.int (Int32.ofNat i)), .val (.int ci), s3] [(.int 65), (.int ci)])
        refine oS (fun t k => XS.icmpYes X34.here hx rfl (pc0 := 53) (pc' := 62) rfl (hb hby dtn_53) rfl (tlt u2).1 (by decide) (by decide) k) ?_
        show oG p e below _ T34 (mkF m 62 #[.val (.ref a1), .val (.int (Int32.ofNat i)), .val (.int ci), s3] [])
        refine oS (fun t k => XS.iloadN X34.here hx rfl (hb hby dtn_62) rfl  k) ?_
        refine oS (fun t k => XS.bipush X34.here hx rfl (hb hby dtn_63) k) ?_
        show oG p e below _ T34 (mkF m 65 #[.val (.ref a1), .val (.int (Int32.ofNat i)), .val (.int ci), s3] [(.int 48), (.int ci)])
        refine oS (fun t k => XS.icmpNo X34.here hx rfl (hb hby dtn_65) rfl (flt u3).1 k) ?_
        show oG p e below _ T34 (mkF m 68 #[.val (.ref a1), .val (.int (Int32.ofNat i)), .val (.int ci), s3] [])
        refine oS (fun t k => XS.iloadN X34.here hx rfl (hb hby dtn_68) rfl  k) ?_
        refine oS (fun t k => XS.bipush X34.here hx rfl (hb hby dtn_69) k) ?_
        show oG p e below _ T34 (mkF m 71 #[.val (.ref a1), .val (.int (Int32.ofNat i)), .val (.int ci), s3] [(.int 57), (.int ci)])
        refine oS (fun t k => XS.icmpYes X34.here hx rfl (pc0 := 71) (pc' := 86) rfl (hb hby dtn_71) rfl (flt u4).2.2.2 (by decide) (by decide) k) ?_
        show oG p e below _ T34 (mkF m 86 #[.val (.ref a1), .val (.int (Int32.ofNat i)), .val (.int ci), s3] [])
        refine oS (fun t k => XS.iconst X34.here hx rfl (hb hby dtn_86) k) ?_
        refine oS (fun t k => XS.goto X34.here hx rfl (pc0 := 87) (pc' := 91) rfl (hb hby dtn_87) (by decide) (by decide) k) ?_
        show oG p e below _ T34 (mkF m 91 #[.val (.ref a1), .val (.int (Int32.ofNat i)), .val (.int ci), s3] [(.int 1)])
        refine oS (fun t k => XS.istoreN X34.here hx rfl (hb hby dtn_91) rfl (l' := #[.val (.ref a1), .val (.int (Int32.ofNat i)), .val (.int ci), .val (.int 1)]) (XS.store1 rfl hs3 rfl) k) ?_
        show oG p e below _ T34 (mkF m 92 #[.val (.ref a1), .val (.int (Int32.ofNat i)), .val (.int ci), .val (.int 1)] [])
        refine oS (fun t k => XS.iloadN X34.here hx rfl (hb hby dtn_92) rfl  k) ?_
        show oG p e below _ T34 (mkF m 93 #[.val (.ref a1), .val (.int (Int32.ofNat i)), .val (.int ci), .val (.int 1)] [(.int 1)])
        refine oS (fun t k => XS.ifYes X34.here hx rfl (pc0 := 93) (pc' := 98) rfl (hb hby dtn_93) rfl ((if0 _ _).trans (feq (by decide : ¬ ((1 : Int32) = 0))).2) (by decide) (by decide) k) ?_
        show oG p e below _ T34 (mkF m 98 #[.val (.ref a1), .val (.int (Int32.ofNat i)), .val (.int ci), .val (.int 1)] [])
        refine oS (fun t k => XS.iinc X34.here hx rfl (hb hby dtn_98) rfl (l' := #[.val (.ref a1), .val (.int ((Int32.ofNat i) + (1 : Int32))), .val (.int ci), .val (.int 1)]) rfl k) ?_
        show oG p e below _ T34 (mkF m 101 #[.val (.ref a1), .val (.int ((Int32.ofNat i) + (1 : Int32))), .val (.int ci), .val (.int 1)] [])
        rw [own_one]
        show oG p e below _ T34 (mkF m 101 #[.val (.ref a1), .val (.int (Int32.ofNat (i + 1))), .val (.int ci), .val (.int 1)] [])
        refine oS (fun t k => XS.goto X34.here hx rfl (pc0 := 101) (pc' := 24) rfl (hb hby dtn_101) (by decide) (by decide) k) ?_
        show oG p e below _ T34 (mkF m 24 #[.val (.ref a1), .val (.int (Int32.ofNat (i + 1))), .val (.int ci), .val (.int 1)] [])
        exact ih (i + 1) _ _ (One.val rfl) (One.val rfl) _ _ X34 (Fr.app (Fr.app NL (Fr.nil n0)) M34) e34 (by omega) hp0 hp1 (hnext (own_ok7 ⟨u1, u2, u3, u4⟩))
      · refine oS (fun t k => XS.icmpYes X34.here hx rfl (pc0 := 41) (pc' := 50) rfl (hb hby dtn_41) rfl (tlt u1).1 (by decide) (by decide) k) ?_
        show oG p e below _ T34 (mkF m 50 #[.val (.ref a1), .val (.int (Int32.ofNat i)), .val (.int ci), s3] [])
        refine oS (fun t k => XS.iloadN X34.here hx rfl (hb hby dtn_50) rfl  k) ?_
        refine oS (fun t k => XS.bipush X34.here hx rfl (hb hby dtn_51) k) ?_
        show oG p e below _ T34 (mkF m 53 #[.val (.ref a1), .val (.int (Int32.ofNat i)), .val (.int ci), s3] [(.int 65), (.int ci)])
        refine oS (fun t k => XS.icmpYes X34.here hx rfl (pc0 := 53) (pc' := 62) rfl (hb hby dtn_53) rfl (tlt u2).1 (by decide) (by decide) k) ?_
        show oG p e below _ T34 (mkF m 62 #[.val (.ref a1), .val (.int (Int32.ofNat i)), .val (.int ci), s3] [])
        refine oS (fun t k => XS.iloadN X34.here hx rfl (hb hby dtn_62) rfl  k) ?_
        refine oS (fun t k => XS.bipush X34.here hx rfl (hb hby dtn_63) k) ?_
        show oG p e below _ T34 (mkF m 65 #[.val (.ref a1), .val (.int (Int32.ofNat i)), .val (.int ci), s3] [(.int 48), (.int ci)])
        refine oS (fun t k => XS.icmpYes X34.here hx rfl (pc0 := 65) (pc' := 74) rfl (hb hby dtn_65) rfl (tlt u3).1 (by decide) (by decide) k) ?_
        show oG p e below _ T34 (mkF m 74 #[.val (.ref a1), .val (.int (Int32.ofNat i)), .val (.int ci), s3] [])
        refine oS (fun t k => XS.iloadN X34.here hx rfl (hb hby dtn_74) rfl  k) ?_
        refine oS (fun t k => XS.bipush X34.here hx rfl (hb hby dtn_75) k) ?_
        show oG p e below _ T34 (mkF m 77 #[.val (.ref a1), .val (.int (Int32.ofNat i)), .val (.int ci), s3] [(.int 95), (.int ci)])
        refine oS (fun t k => XS.icmpNo X34.here hx rfl (hb hby dtn_77) rfl (feq u4).1 k) ?_
        show oG p e below _ T34 (mkF m 80 #[.val (.ref a1), .val (.int (Int32.ofNat i)), .val (.int ci), s3] [])
        refine oS (fun t k => XS.iloadN X34.here hx rfl (hb hby dtn_80) rfl  k) ?_
        refine oS (fun t k => XS.bipush X34.here hx rfl (hb hby dtn_81) k) ?_
        show oG p e below _ T34 (mkF m 83 #[.val (.ref a1), .val (.int (Int32.ofNat i)), .val (.int ci), s3] [(.int 45), (.int ci)])
        refine oS (fun t k => XS.icmpYes X34.here hx rfl (pc0 := 83) (pc' := 90) rfl (hb hby dtn_83) rfl (feq u5).2 (by decide) (by decide) k) ?_
        show oG p e below _ T34 (mkF m 90 #[.val (.ref a1), .val (.int (Int32.ofNat i)), .val (.int ci), s3] [])
        refine oS (fun t k => XS.iconst X34.here hx rfl (hb hby dtn_90) k) ?_
        refine oS (fun t k => XS.istoreN X34.here hx rfl (hb hby dtn_91) rfl (l' := #[.val (.ref a1), .val (.int (Int32.ofNat i)), .val (.int ci), .val (.int 0)]) (XS.store1 rfl hs3 rfl) k) ?_
        show oG p e below _ T34 (mkF m 92 #[.val (.ref a1), .val (.int (Int32.ofNat i)), .val (.int ci), .val (.int 0)] [])
        refine oS (fun t k => XS.iloadN X34.here hx rfl (hb hby dtn_92) rfl  k) ?_
        show oG p e below _ T34 (mkF m 93 #[.val (.ref a1), .val (.int (Int32.ofNat i)), .val (.int ci), .val (.int 0)] [(.int 0)])
        refine oS (fun t k => XS.ifNo X34.here hx rfl (hb hby dtn_93) rfl ((if0 _ _).trans (teq (rfl : (0 : Int32) = 0)).2) k) ?_
        show oG p e below _ T34 (mkF m 96 #[.val (.ref a1), .val (.int (Int32.ofNat i)), .val (.int ci), .val (.int 0)] [])
        refine oS (fun t k => XS.iconst X34.here hx rfl (hb hby dtn_96) k) ?_
        show oG p e below _ T34 (mkF m 97 #[.val (.ref a1), .val (.int (Int32.ofNat i)), .val (.int ci), .val (.int 0)] [(.int 0)])
        refine own_retN (t := .boolean) X34 hx hlk hret (by simp) (hb hby dtn_97) ?_ (by decide) (by decide)
        rw [e34]
        exact ⟨by rw [hbad (own_no8 ⟨u1, u2, u3, u4, u5⟩)]; rfl, Fr.app (Fr.app NL (Fr.nil n0)) M34, rfl⟩
      · show oG p e below _ T34 (mkF m 41 #[.val (.ref a1), .val (.int (Int32.ofNat i)), .val (.int 45), s3] [(.int 97), (.int 45)])
        refine oS (fun t k => XS.icmpYes X34.here hx rfl (pc0 := 41) (pc' := 50) rfl (hb hby dtn_41) rfl (tlt (by decide : (45 : Int32) < 97)).1 (by decide) (by decide) k) ?_
        show oG p e below _ T34 (mkF m 50 #[.val (.ref a1), .val (.int (Int32.ofNat i)), .val (.int 45), s3] [])
        refine oS (fun t k => XS.iloadN X34.here hx rfl (hb hby dtn_50) rfl  k) ?_
        refine oS (fun t k => XS.bipush X34.here hx rfl (hb hby dtn_51) k) ?_
        show oG p e below _ T34 (mkF m 53 #[.val (.ref a1), .val (.int (Int32.ofNat i)), .val (.int 45), s3] [(.int 65), (.int 45)])
        refine oS (fun t k => XS.icmpYes X34.here hx rfl (pc0 := 53) (pc' := 62) rfl (hb hby dtn_53) rfl (tlt (by decide : (45 : Int32) < 65)).1 (by decide) (by decide) k) ?_
        show oG p e below _ T34 (mkF m 62 #[.val (.ref a1), .val (.int (Int32.ofNat i)), .val (.int 45), s3] [])
        refine oS (fun t k => XS.iloadN X34.here hx rfl (hb hby dtn_62) rfl  k) ?_
        refine oS (fun t k => XS.bipush X34.here hx rfl (hb hby dtn_63) k) ?_
        show oG p e below _ T34 (mkF m 65 #[.val (.ref a1), .val (.int (Int32.ofNat i)), .val (.int 45), s3] [(.int 48), (.int 45)])
        refine oS (fun t k => XS.icmpYes X34.here hx rfl (pc0 := 65) (pc' := 74) rfl (hb hby dtn_65) rfl (tlt (by decide : (45 : Int32) < 48)).1 (by decide) (by decide) k) ?_
        show oG p e below _ T34 (mkF m 74 #[.val (.ref a1), .val (.int (Int32.ofNat i)), .val (.int 45), s3] [])
        refine oS (fun t k => XS.iloadN X34.here hx rfl (hb hby dtn_74) rfl  k) ?_
        refine oS (fun t k => XS.bipush X34.here hx rfl (hb hby dtn_75) k) ?_
        show oG p e below _ T34 (mkF m 77 #[.val (.ref a1), .val (.int (Int32.ofNat i)), .val (.int 45), s3] [(.int 95), (.int 45)])
        refine oS (fun t k => XS.icmpNo X34.here hx rfl (hb hby dtn_77) rfl (feq (by decide : ¬ (45 : Int32) = 95)).1 k) ?_
        show oG p e below _ T34 (mkF m 80 #[.val (.ref a1), .val (.int (Int32.ofNat i)), .val (.int 45), s3] [])
        refine oS (fun t k => XS.iloadN X34.here hx rfl (hb hby dtn_80) rfl  k) ?_
        refine oS (fun t k => XS.bipush X34.here hx rfl (hb hby dtn_81) k) ?_
        show oG p e below _ T34 (mkF m 83 #[.val (.ref a1), .val (.int (Int32.ofNat i)), .val (.int 45), s3] [(.int 45), (.int 45)])
        refine oS (fun t k => XS.icmpNo X34.here hx rfl (hb hby dtn_83) rfl (teq (rfl : (45 : Int32) = 45)).2 k) ?_
        show oG p e below _ T34 (mkF m 86 #[.val (.ref a1), .val (.int (Int32.ofNat i)), .val (.int 45), s3] [])
        refine oS (fun t k => XS.iconst X34.here hx rfl (hb hby dtn_86) k) ?_
        refine oS (fun t k => XS.goto X34.here hx rfl (pc0 := 87) (pc' := 91) rfl (hb hby dtn_87) (by decide) (by decide) k) ?_
        show oG p e below _ T34 (mkF m 91 #[.val (.ref a1), .val (.int (Int32.ofNat i)), .val (.int 45), s3] [(.int 1)])
        refine oS (fun t k => XS.istoreN X34.here hx rfl (hb hby dtn_91) rfl (l' := #[.val (.ref a1), .val (.int (Int32.ofNat i)), .val (.int 45), .val (.int 1)]) (XS.store1 rfl hs3 rfl) k) ?_
        show oG p e below _ T34 (mkF m 92 #[.val (.ref a1), .val (.int (Int32.ofNat i)), .val (.int 45), .val (.int 1)] [])
        refine oS (fun t k => XS.iloadN X34.here hx rfl (hb hby dtn_92) rfl  k) ?_
        show oG p e below _ T34 (mkF m 93 #[.val (.ref a1), .val (.int (Int32.ofNat i)), .val (.int 45), .val (.int 1)] [(.int 1)])
        refine oS (fun t k => XS.ifYes X34.here hx rfl (pc0 := 93) (pc' := 98) rfl (hb hby dtn_93) rfl ((if0 _ _).trans (feq (by decide : ¬ ((1 : Int32) = 0))).2) (by decide) (by decide) k) ?_
        show oG p e below _ T34 (mkF m 98 #[.val (.ref a1), .val (.int (Int32.ofNat i)), .val (.int 45), .val (.int 1)] [])
        refine oS (fun t k => XS.iinc X34.here hx rfl (hb hby dtn_98) rfl (l' := #[.val (.ref a1), .val (.int ((Int32.ofNat i) + (1 : Int32))), .val (.int 45), .val (.int 1)]) rfl k) ?_
        show oG p e below _ T34 (mkF m 101 #[.val (.ref a1), .val (.int ((Int32.ofNat i) + (1 : Int32))), .val (.int 45), .val (.int 1)] [])
        rw [own_one]
        show oG p e below _ T34 (mkF m 101 #[.val (.ref a1), .val (.int (Int32.ofNat (i + 1))), .val (.int 45), .val (.int 1)] [])
        refine oS (fun t k => XS.goto X34.here hx rfl (pc0 := 101) (pc' := 24) rfl (hb hby dtn_101) (by decide) (by decide) k) ?_
        show oG p e below _ T34 (mkF m 24 #[.val (.ref a1), .val (.int (Int32.ofNat (i + 1))), .val (.int 45), .val (.int 1)] [])
        exact ih (i + 1) _ _ (One.val rfl) (One.val rfl) _ _ X34 (Fr.app (Fr.app NL (Fr.nil n0)) M34) e34 (by omega) hp0 hp1 (hnext ((by decide : okc 45)))
  refine own_cast (eftn m a1) ?_
  show oG p e below _ s₁ (mkF m 0 #[.val (.ref a1), .unset, .unset, .unset] [])
  refine oS (fun t k => XS.aloadN X0.here hx rfl (hb hby dtn_0) rfl rfl k) ?_
  show oG p e below _ s₁ (mkF m 1 #[.val (.ref a1), .unset, .unset, .unset] [(.ref a1)])
  refine oS (fun t k => XS.ifnullNo X0.here hx rfl (hb hby dtn_1) rfl k) ?_
  show oG p e below _ s₁ (mkF m 4 #[.val (.ref a1), .unset, .unset, .unset] [])
  refine oS (fun t k => XS.aloadN X0.here hx rfl (hb hby dtn_4) rfl rfl k) ?_
  show oG p e below _ s₁ (mkF m 5 #[.val (.ref a1), .unset, .unset, .unset] [(.ref a1)])
  refine own_callV X0 hx hZ (y := (⟨"java/lang/String", "isEmpty", "()Z"⟩ : MethodName)) (W := 0) (Q := (fun v h L => v = some (.int (if cs.length = 0 then 1 else 0)) ∧ L = [] ∧ h = h0)) (kc := 0) (ks := 0) hown (oW hw 26 rfl) (oW hw 27 rfl) (oW hw 29 rfl) (oW hw 28 rfl) (StrChars.Road.empW (W := 0) hZ hem (kI := 4) (oW hw 1 rfl) E1 V1 C1 K1 hcd hbd hl4 (by decide) (by decide)) (by decide) (b := a1) E1 (g := (mkF m 5 #[.val (.ref a1), .unset, .unset, .unset] [(.ref a1)])) rfl (by rw [hml]; rfl) (argsL := []) (rest := []) (lenOf pd_5 rfl) rfl (by show 2 * 0 + _ ≤ _; exact Nat.le_of_eq rfl) (hb hby dtn_5) rfl e0 (by decide) (by decide) (fun v5 T5 L5 X5 hQ5 => ?_)
  obtain ⟨rfl, rfl, e5⟩ := hQ5
  by_cases hz : cs.length = 0
  · rw [if_pos hz]
    show oG p e below _ T5 (mkF m 8 #[.val (.ref a1), .unset, .unset, .unset] [(.int 1)])
    refine oS (fun t k => XS.ifYes X5.here hx rfl (pc0 := 8) (pc' := 20) rfl (hb hby dtn_8) rfl ((if0 _ _).trans (feq (by decide : ¬ (1 : Int32) = 0)).2) (by decide) (by decide) k) ?_
    show oG p e below _ T5 (mkF m 20 #[.val (.ref a1), .unset, .unset, .unset] [])
    refine oS (fun t k => XS.iconst X5.here hx rfl (hb hby dtn_20) k) ?_
    show oG p e below _ T5 (mkF m 21 #[.val (.ref a1), .unset, .unset, .unset] [(.int 0)])
    refine own_retN (t := .boolean) X5 hx hlk hret (by simp) (hb hby dtn_21) ?_ (by decide) (by decide)
    rw [e5]
    exact ⟨by rw [own_val, if_neg fun r => by omega]; rfl, Fr.app N0 (Fr.nil n0), rfl⟩
  · rw [if_neg hz]
    show oG p e below _ T5 (mkF m 8 #[.val (.ref a1), .unset, .unset, .unset] [(.int 0)])
    refine oS (fun t k => XS.ifNo X5.here hx rfl (hb hby dtn_8) rfl ((if0 _ _).trans (teq (rfl : (0 : Int32) = 0)).2) k) ?_
    show oG p e below _ T5 (mkF m 11 #[.val (.ref a1), .unset, .unset, .unset] [])
    refine oS (fun t k => XS.aloadN X5.here hx rfl (hb hby dtn_11) rfl rfl k) ?_
    show oG p e below _ T5 (mkF m 12 #[.val (.ref a1), .unset, .unset, .unset] [(.ref a1)])
    refine own_callV X5 hx hZ (y := (⟨"java/lang/String", "length", "()I"⟩ : MethodName)) (W := 0) (Q := (fun v h L => v = some (.int (Int32.ofNat cs.length)) ∧ L = [] ∧ h = h0)) (kc := 0) (ks := 0) hown (oW hw 46 rfl) (oW hw 47 rfl) (oW hw 49 rfl) (oW hw 48 rfl) (StrChars.Road.lenW (W := 0) hZ hln (kI := 4) (oW hw 1 rfl) E1 V1 C1 K1 hcd hbd SC hCS hl4 (by decide) (by decide)) (by decide) (b := a1) E1 (g := (mkF m 12 #[.val (.ref a1), .unset, .unset, .unset] [(.ref a1)])) rfl (by rw [hml]; rfl) (argsL := []) (rest := []) (lenOf pd_13 rfl) rfl (by show 2 * 0 + _ ≤ _; exact Nat.le_of_eq rfl) (hb hby dtn_12) rfl e5 (by decide) (by decide) (fun v12 T12 L12 X12 hQ12 => ?_)
    obtain ⟨rfl, rfl, e12⟩ := hQ12
    show oG p e below _ T12 (mkF m 15 #[.val (.ref a1), .unset, .unset, .unset] [(.int (Int32.ofNat cs.length))])
    refine oS (fun t k => XS.bipush X12.here hx rfl (hb hby dtn_15) k) ?_
    show oG p e below _ T12 (mkF m 17 #[.val (.ref a1), .unset, .unset, .unset] [(.int 127), (.int (Int32.ofNat cs.length))])
    by_cases hq : cs.length ≤ 127
    · refine oS (fun t k => XS.icmpYes X12.here hx rfl (pc0 := 17) (pc' := 22) rfl (hb hby dtn_17) rfl (flt (own_n127 hq)).2.2.2 (by decide) (by decide) k) ?_
      show oG p e below _ T12 (mkF m 22 #[.val (.ref a1), .unset, .unset, .unset] [])
      refine oS (fun t k => XS.iconst X12.here hx rfl (hb hby dtn_22) k) ?_
      refine oS (fun t k => XS.istoreN X12.here hx rfl (hb hby dtn_23) rfl (l' := #[.val (.ref a1), .val (.int 0), .unset, .unset]) rfl k) ?_
      show oG p e below _ T12 (mkF m 24 #[.val (.ref a1), .val (.int 0), .unset, .unset] [])
      exact loop cs.length 0 _ _ One.u One.u _ _ X12 (Fr.app (Fr.app N0 (Fr.nil n0)) (Fr.nil n0)) e12 (by omega) (by omega) hq (fun j hj => absurd hj (Nat.not_lt_zero _))
    · refine oS (fun t k => XS.icmpNo X12.here hx rfl (hb hby dtn_17) rfl (tlt (own_g127 hq hl4)).2.2.2 k) ?_
      show oG p e below _ T12 (mkF m 20 #[.val (.ref a1), .unset, .unset, .unset] [])
      refine oS (fun t k => XS.iconst X12.here hx rfl (hb hby dtn_20) k) ?_
      show oG p e below _ T12 (mkF m 21 #[.val (.ref a1), .unset, .unset, .unset] [(.int 0)])
      refine own_retN (t := .boolean) X12 hx hlk hret (by simp) (hb hby dtn_21) ?_ (by decide) (by decide)
      rw [e12]
      exact ⟨by rw [own_val, if_neg fun r => hq r.2.1]; rfl, Fr.app (Fr.app N0 (Fr.nil n0)) (Fr.nil n0), rfl⟩
theorem dsv0_0 : decode jdk_42_method_149_code 0 = .ok (.aload_n 0, 1) := by decide +kernel
theorem dsv0_1 : decode jdk_42_method_149_code 1 = .ok (.invokespecial 1, 3) := by decide +kernel
theorem dsv0_4 : decode jdk_42_method_149_code 4 = .ok (.iload_n 3, 1) := by decide +kernel
theorem dsv0_5 : decode jdk_42_method_149_code 5 = .ok (.ifCond .ne 22, 3) := by decide +kernel
theorem dsv0_8 : decode jdk_42_method_149_code 8 = .ok (.aload_n 0, 1) := by decide +kernel
theorem dsv0_9 : decode jdk_42_method_149_code 9 = .ok (.ldc 7, 2) := by decide +kernel
theorem dsv0_11 : decode jdk_42_method_149_code 11 = .ok (.getfield 9, 3) := by decide +kernel
theorem dsv0_14 : decode jdk_42_method_149_code 14 = .ok (.putfield 9, 3) := by decide +kernel
theorem dsv0_17 : decode jdk_42_method_149_code 17 = .ok (.aload_n 0, 1) := by decide +kernel
theorem dsv0_18 : decode jdk_42_method_149_code 18 = .ok (.ldc 7, 2) := by decide +kernel
theorem dsv0_20 : decode jdk_42_method_149_code 20 = .ok (.getfield 15, 3) := by decide +kernel
theorem dsv0_23 : decode jdk_42_method_149_code 23 = .ok (.putfield 15, 3) := by decide +kernel
theorem dsv0_26 : decode jdk_42_method_149_code 26 = .ok (.return_, 1) := by decide +kernel
theorem dsv0_27 : decode jdk_42_method_149_code 27 = .ok (.getstatic 38, 3) := by decide +kernel
theorem dsv0_30 : decode jdk_42_method_149_code 30 = .ok (.ifCond .eq 28, 3) := by decide +kernel
theorem dsv0_33 : decode jdk_42_method_149_code 33 = .ok (.aload_n 1, 1) := by decide +kernel
theorem dsv0_34 : decode jdk_42_method_149_code 34 = .ok (.iload_n 2, 1) := by decide +kernel
theorem dsv0_35 : decode jdk_42_method_149_code 35 = .ok (.iload_n 3, 1) := by decide +kernel
theorem dsv0_36 : decode jdk_42_method_149_code 36 = .ok (.invokestatic 177, 3) := by decide +kernel
theorem dsv0_39 : decode jdk_42_method_149_code 39 = .ok (.astore 5, 2) := by decide +kernel
theorem dsv0_41 : decode jdk_42_method_149_code 41 = .ok (.aload_n 0, 1) := by decide +kernel
theorem dsv0_42 : decode jdk_42_method_149_code 42 = .ok (.aload 5, 2) := by decide +kernel
theorem dsv0_44 : decode jdk_42_method_149_code 44 = .ok (.iload_n 3, 1) := by decide +kernel
theorem dsv0_45 : decode jdk_42_method_149_code 45 = .ok (.invokestatic 47, 3) := by decide +kernel
theorem dsv0_48 : decode jdk_42_method_149_code 48 = .ok (.putfield 15, 3) := by decide +kernel
theorem dsv0_51 : decode jdk_42_method_149_code 51 = .ok (.aload_n 0, 1) := by decide +kernel
theorem dsv0_52 : decode jdk_42_method_149_code 52 = .ok (.aload 5, 2) := by decide +kernel
theorem dsv0_54 : decode jdk_42_method_149_code 54 = .ok (.putfield 9, 3) := by decide +kernel
theorem dsv0_57 : decode jdk_42_method_149_code 57 = .ok (.return_, 1) := by decide +kernel
theorem dsv0_58 : decode jdk_42_method_149_code 58 = .ok (.aload_n 0, 1) := by decide +kernel
theorem dsv0_59 : decode jdk_42_method_149_code 59 = .ok (.iconst 1, 1) := by decide +kernel
theorem dsv0_60 : decode jdk_42_method_149_code 60 = .ok (.putfield 15, 3) := by decide +kernel
theorem dsv0_63 : decode jdk_42_method_149_code 63 = .ok (.aload_n 0, 1) := by decide +kernel
theorem dsv0_64 : decode jdk_42_method_149_code 64 = .ok (.aload_n 1, 1) := by decide +kernel
theorem dsv0_65 : decode jdk_42_method_149_code 65 = .ok (.iload_n 2, 1) := by decide +kernel
theorem dsv0_66 : decode jdk_42_method_149_code 66 = .ok (.iload_n 3, 1) := by decide +kernel
theorem dsv0_67 : decode jdk_42_method_149_code 67 = .ok (.invokestatic 180, 3) := by decide +kernel
theorem dsv0_70 : decode jdk_42_method_149_code 70 = .ok (.putfield 9, 3) := by decide +kernel
theorem dsv0_73 : decode jdk_42_method_149_code 73 = .ok (.return_, 1) := by decide +kernel
theorem efsv0 (m : MethodId) (x0 : Addr) (x1 : Addr) (x2 : Int32) (x3 : Int32) : entryFrame m #[(.ref x0), (.ref x1), (.int x2), (.int x3), .null] 6 = mkF m 0 #[.val (.ref x0), .val (.ref x1), .val (.int x2), .val (.int x3), .val .null, .unset] [] := by first | (simp [entryFrame, mkF, argsToLocals, Value.category]; done) | rfl
set_option maxRecDepth 65536 in
set_option maxHeartbeats 40000000 in
theorem rm_sv0 (l : Launch) (Z : State) (a0 : Array Value) (hw : ∀ d ∈ tables_1, d.before a0 Z = true) (ws : List Jvm.Cond) (x1 : Addr) (s1 : Addr) (v0 : Value) (c0v : Value) (h0 : Heap) (n0 : Nat) (Z0 : n0 ≤ h0.size) (hE : EW Z a0 consts_1) (wS : ∀ a ∈ Bundle.stringAtoms, a.before a0 Z = true) (E1 : Exa Z h0 x1 "java/lang/String") (F1 : Fld Z h0 x1 "java/lang/String" "value" "[B" v0) (C1 : Fld Z h0 x1 "java/lang/String" "coder" "B" c0v) (gx : n0 ≤ x1) :
    own_MetH l Z consts_1 ws (⟨"java/lang/String", "<init>", "([CIILjava/lang/Void;)V"⟩ : MethodName) jdk_42_method_149_code 6 none ({ frames := 1, cells := 4, slots := 8, locals := 12 } : Room) #[(.ref x1), (.ref s1), (.int 0), (.int 0), .null] h0 (own_QS Z x1 [] h0 n0) (fun vm => Safe Z consts_1 vm h0 x1) := by
  refine own_bodyH (plainFor_of_name pn_2) hE ?_
  intro p e s m below meth c s₁ hx hby hml hret hlk hown hnm X0 e0 K0 hPv
  have hZ : Z.Warmed39 s.vm := K0.1
  have hml : c.maxLocals = 6 := hml
  have hown : s.vm.findClass "java/lang/String" = some m.cls := hown
  have N0 := Fr.nil n0
  refine own_cast (efsv0 m x1 s1 (0 : Int32) (0 : Int32)) ?_
  show oG p e below _ s₁ (mkF m 0 #[.val (.ref x1), .val (.ref s1), .val (.int 0), .val (.int 0), .val .null, .unset] [])
  refine oS (fun t k => XS.aloadN X0.here hx rfl (hb hby dsv0_0) rfl rfl k) ?_
  show oG p e below _ s₁ (mkF m 1 #[.val (.ref x1), .val (.ref s1), .val (.int 0), .val (.int 0), .val .null, .unset] [(.ref x1)])
  obtain ⟨T1, X1, e1, st1⟩ := initO X0 hx hZ hown (oW hw 11 rfl) (oW hw 12 rfl) (oW hw 13 rfl) e0 (g := (mkF m 1 #[.val (.ref x1), .val (.ref s1), .val (.int 0), .val (.int 0), .val .null, .unset] [(.ref x1)])) rfl (by rw [hml]; rfl) rfl (hb hby dsv0_1) (by decide) (W := 0) (by show 2 * 0 + _ ≤ _; exact Nat.le_of_eq rfl) (by decide)
  refine oS st1 ?_
  show oG p e below _ T1 (mkF m 4 #[.val (.ref x1), .val (.ref s1), .val (.int 0), .val (.int 0), .val .null, .unset] [])
  refine oS (fun t k => XS.iloadN X1.here hx rfl (hb hby dsv0_4) rfl  k) ?_
  show oG p e below _ T1 (mkF m 5 #[.val (.ref x1), .val (.ref s1), .val (.int 0), .val (.int 0), .val .null, .unset] [(.int 0)])
  refine oS (fun t k => XS.ifNo X1.here hx rfl (hb hby dsv0_5) rfl ((if0 _ _).trans (teq (rfl : (0 : Int32) = 0)).2) k) ?_
  show oG p e below _ T1 (mkF m 8 #[.val (.ref x1), .val (.ref s1), .val (.int 0), .val (.int 0), .val .null, .unset] [])
  refine oS (fun t k => XS.aloadN X1.here hx rfl (hb hby dsv0_8) rfl rfl k) ?_
  show oG p e below _ T1 (mkF m 9 #[.val (.ref x1), .val (.ref s1), .val (.int 0), .val (.int 0), .val .null, .unset] [(.ref x1)])
  refine own_ldc X1 hx K0 (text := "") hown (oW hw 14 rfl) wS e1 (by decide) (vs := []) (z := (0 : Int32)) ⟨by decide, by decide⟩ (by decide) rfl (g := (mkF m 9 #[.val (.ref x1), .val (.ref s1), .val (.int 0), .val (.int 0), .val .null, .unset] [(.ref x1)])) rfl (hb hby dsv0_9) (n := 0) (by decide) (by decide) (by decide) (by decide) (fun a9 T9 b9 kb9 X9 E9 K9 hown9 R9 LE9 LC9 LV9 LA9 SF9 => ?_)
  show oG p e below _ T9 (mkF m 11 #[.val (.ref x1), .val (.ref s1), .val (.int 0), .val (.int 0), .val .null, .unset] [(.ref a9), (.ref x1)])
  have S9 := R9.safe E1.lt hPv
  have x9 := SF9 x1 S9
  have E9' := E1.ext E9
  have F9' := F1.ext E9
  have C9' := C1.ext E9
  obtain ⟨T11, X11, e11, st11⟩ := getF X9 hx K9.1 hown9 (host := "") (Or.inl (oW hw 20 rfl)) Via.refl rfl LV9 (g := (mkF m 11 #[.val (.ref x1), .val (.ref s1), .val (.int 0), .val (.int 0), .val .null, .unset] [(.ref a9), (.ref x1)])) rfl rfl (hb hby dsv0_11)
  refine oS st11 ?_
  show oG p e below _ T11 (mkF m 14 #[.val (.ref x1), .val (.ref s1), .val (.int 0), .val (.int 0), .val .null, .unset] [(.ref b9), (.ref x1)])
  obtain ⟨T14, h14, X14, e14, W14, st14⟩ := putF X11 hx K9.1 hown9 (host := "") (Or.inl (oW hw 20 rfl)) Via.refl e11 F9' E9' (Or.inr ⟨(oW hw 16 rfl), rfl, hnm⟩) (oW hw 1 rfl) (ty := (.array .byte)) (by decide) rfl rfl (g := (mkF m 14 #[.val (.ref x1), .val (.ref s1), .val (.int 0), .val (.int 0), .val .null, .unset] [(.ref b9), (.ref x1)])) rfl rfl (hb hby dsv0_14)
  refine oS st14 ?_
  have N14 := Fr.snoc X14 N0 gx
  have E14_o := E9'.wr W14
  have F14_value := F9'.same W14
  have F14_coder := C9'.other W14 (Or.inr (slot_ne (Or.inr (oW hw 17 rfl)) (Or.inr (oW hw 16 rfl)) (by decide) (t := .byte) (t' := (.array .byte)) (by decide) (by decide)))
  show oG p e below _ T14 (mkF m 17 #[.val (.ref x1), .val (.ref s1), .val (.int 0), .val (.int 0), .val .null, .unset] [])
  have K14 := K9.wr W14 S9
  have S14 := Safe.wr W14 S9 K9.2.2.1.1 S9
  have LA14 := LA9.other W14 x9.2.symm
  have EE14 : Keep h0 h14 [x1] := ((Keep.refl h0 [x1]).ext E9).wr W14 (Or.inl (List.mem_of_getElem? (i := 0) rfl))
  refine oS (fun t k => XS.aloadN X14.here hx rfl (hb hby dsv0_17) rfl rfl k) ?_
  show oG p e below _ T14 (mkF m 18 #[.val (.ref x1), .val (.ref s1), .val (.int 0), .val (.int 0), .val .null, .unset] [(.ref x1)])
  refine own_ldc X14 hx K14 (text := "") hown9 (oW hw 14 rfl) wS e14 (by decide) (vs := []) (z := (0 : Int32)) ⟨by decide, by decide⟩ (by decide) rfl (g := (mkF m 18 #[.val (.ref x1), .val (.ref s1), .val (.int 0), .val (.int 0), .val .null, .unset] [(.ref x1)])) rfl (hb hby dsv0_18) (n := 0) (by decide) (by decide) (by decide) (by decide) (fun a18 T18 b18 kb18 X18 E18 K18 hown18 R18 LE18 LC18 LV18 LA18 SF18 => ?_)
  show oG p e below _ T18 (mkF m 20 #[.val (.ref x1), .val (.ref s1), .val (.int 0), .val (.int 0), .val .null, .unset] [(.ref a18), (.ref x1)])
  have S18 := R18.safe E14_o.lt S14
  obtain ⟨T20, X20, e20, st20⟩ := getF X18 hx K18.1 hown18 (host := "") (Or.inl (oW hw 21 rfl)) Via.refl rfl LC18 (g := (mkF m 20 #[.val (.ref x1), .val (.ref s1), .val (.int 0), .val (.int 0), .val .null, .unset] [(.ref a18), (.ref x1)])) rfl rfl (hb hby dsv0_20)
  refine oS st20 ?_
  show oG p e below _ T20 (mkF m 23 #[.val (.ref x1), .val (.ref s1), .val (.int 0), .val (.int 0), .val .null, .unset] [(.int 0), (.ref x1)])
  obtain ⟨T23, h23, X23, e23, W23, st23⟩ := putFN X20 hx K18.1 hown18 (oW hw 21 rfl) Via.refl e20 (F14_coder.ext E18) (E14_o.ext E18) (Or.inr ⟨(oW hw 17 rfl), rfl, hnm⟩) (oW hw 1 rfl) (ty := .byte) (v' := (.int 0)) (by decide) rfl rfl (g := (mkF m 23 #[.val (.ref x1), .val (.ref s1), .val (.int 0), .val (.int 0), .val .null, .unset] [(.int 0), (.ref x1)])) rfl rfl (hb hby dsv0_23)
  refine oS st23 ?_
  have N23 := Fr.snoc X23 N14 gx
  have E23_o := (E14_o.ext E18).wr W23
  have F23_value := (F14_value.ext E18).other W23 (Or.inr (slot_ne (Or.inr (oW hw 16 rfl)) (Or.inr (oW hw 17 rfl)) (by decide) (t := (.array .byte)) (t' := .byte) (by decide) (by decide)))
  have F23_coder := (F14_coder.ext E18).same W23
  show oG p e below _ T23 (mkF m 26 #[.val (.ref x1), .val (.ref s1), .val (.int 0), .val (.int 0), .val .null, .unset] [])
  have K23 := K18.wr W23 S18
  have LA23 := (LA14.ext E18).other W23 x9.2.symm
  refine own_retHV X23 K23 e23 hx hlk hret (hb hby dsv0_26) ?_ (by decide) (by decide)
  exact ⟨rfl, N23, (EE14.ext E18).wr W23 (Or.inl (List.mem_of_getElem? (i := 0) rfl)), b9, kb9, 0, (0 : Int32), _, E23_o, F23_value, F23_coder, LA23, Or.inl ⟨rfl, rfl, rfl, fun c hc => nomatch hc⟩⟩
theorem dsn0_0 : decode jdk_42_method_3_code 0 = .ok (.aload_n 0, 1) := by decide +kernel
theorem dsn0_1 : decode jdk_42_method_3_code 1 = .ok (.aload_n 1, 1) := by decide +kernel
theorem dsn0_2 : decode jdk_42_method_3_code 2 = .ok (.iconst 0, 1) := by decide +kernel
theorem dsn0_3 : decode jdk_42_method_3_code 3 = .ok (.aload_n 1, 1) := by decide +kernel
theorem dsn0_4 : decode jdk_42_method_3_code 4 = .ok (.arraylength, 1) := by decide +kernel
theorem dsn0_5 : decode jdk_42_method_3_code 5 = .ok (.aconst_null, 1) := by decide +kernel
theorem dsn0_6 : decode jdk_42_method_3_code 6 = .ok (.invokespecial 27, 3) := by decide +kernel
theorem dsn0_9 : decode jdk_42_method_3_code 9 = .ok (.return_, 1) := by decide +kernel
theorem efsn0 (m : MethodId) (x0 : Addr) (x1 : Addr) : entryFrame m #[(.ref x0), (.ref x1)] 2 = mkF m 0 #[.val (.ref x0), .val (.ref x1)] [] := by first | (simp [entryFrame, mkF, argsToLocals, Value.category]; done) | rfl
set_option maxRecDepth 65536 in
set_option maxHeartbeats 40000000 in
theorem rm_s0 (l : Launch) (Z : State) (a0 : Array Value) (hw : ∀ d ∈ tables_1, d.before a0 Z = true) (ws : List Jvm.Cond) (x1 : Addr) (s1 : Addr) (ks : ClassId) (ds : Value) (v0 : Value) (c0v : Value) (h0 : Heap) (n0 : Nat) (Z0 : n0 ≤ h0.size) (hE : EW Z a0 consts_1) (wS : ∀ a ∈ Bundle.stringAtoms, a.before a0 Z = true) (E1 : Exa Z h0 x1 "java/lang/String") (F1 : Fld Z h0 x1 "java/lang/String" "value" "[B" v0) (C1 : Fld Z h0 x1 "java/lang/String" "coder" "B" c0v) (gx : n0 ≤ x1) (V1 : Arv Z h0 s1 ks .char (0 : Int32) [] ds) :
    own_MetH l Z consts_1 ws (⟨"java/lang/String", "<init>", "([C)V"⟩ : MethodName) jdk_42_method_3_code 2 none ({ frames := 2, cells := 4, slots := 8, locals := 30 } : Room) #[(.ref x1), (.ref s1)] h0 (own_QS Z x1 [] h0 n0) (fun vm => Safe Z consts_1 vm h0 x1) := by
  refine own_bodyH (plainFor_of_name pn_2) hE ?_
  intro p e s m below meth c s₁ hx hby hml hret hlk hown hnm X0 e0 K0 hPv
  have hZ : Z.Warmed39 s.vm := K0.1
  have hml : c.maxLocals = 2 := hml
  have hown : s.vm.findClass "java/lang/String" = some m.cls := hown
  have N0 := Fr.nil n0
  refine own_cast (efsn0 m x1 s1) ?_
  show oG p e below _ s₁ (mkF m 0 #[.val (.ref x1), .val (.ref s1)] [])
  refine oS (fun t k => XS.aloadN X0.here hx rfl (hb hby dsn0_0) rfl rfl k) ?_
  refine oS (fun t k => XS.aloadN X0.here hx rfl (hb hby dsn0_1) rfl rfl k) ?_
  refine oS (fun t k => XS.iconst X0.here hx rfl (hb hby dsn0_2) k) ?_
  refine oS (fun t k => XS.aloadN X0.here hx rfl (hb hby dsn0_3) rfl rfl k) ?_
  show oG p e below _ s₁ (mkF m 4 #[.val (.ref x1), .val (.ref s1)] [(.ref s1), (.int 0), (.ref s1), (.ref x1)])
  obtain ⟨cl4, Ar4, -, S4, M4, -, -⟩ := id V1
  refine oS (X0.arraylength hx (by rw [e0]; exact Ar4.1) (State.isArrayOf_alike hZ.alike Ar4.2.1) (g := (mkF m 4 #[.val (.ref x1), .val (.ref s1)] [(.ref s1), (.int 0), (.ref s1), (.ref x1)])) rfl rfl (hb hby dsn0_4)) ?_
  rw [len_of S4 M4]
  show oG p e below _ s₁ (mkF m 5 #[.val (.ref x1), .val (.ref s1)] [(.int 0), (.int 0), (.ref s1), (.ref x1)])
  refine oS (fun t k => XS.aconstNull X0.here hx rfl (hb hby dsn0_5) k) ?_
  show oG p e below _ s₁ (mkF m 6 #[.val (.ref x1), .val (.ref s1)] [.null, (.int 0), (.int 0), (.ref s1), (.ref x1)])
  refine own_callIH X0 hx K0 (y := (⟨"java/lang/String", "<init>", "([CIILjava/lang/Void;)V"⟩ : MethodName)) (W := 0) (kc := 4) (ks := 8) rfl hown (oW hw 7 rfl) (oW hw 8 rfl) (oW hw 10 rfl) (own_backH (W := 0) (rm_sv0 l Z a0 hw [] x1 s1 v0 c0v h0 n0 Z0 hE wS E1 F1 C1 gx) K0 (fun vm' r => r.safe E1.lt hPv) (oW hw 10 rfl) (oW hw 2 rfl) (by decide) (by decide)) (by decide) (g := (mkF m 6 #[.val (.ref x1), .val (.ref s1)] [.null, (.int 0), (.int 0), (.ref s1), (.ref x1)])) rfl (by rw [hml]; rfl) (a := x1) (argsL := [(.ref s1), (.int 0), (.int 0), .null]) (rest := []) (lenOf pd_12 rfl) rfl (by show 2 * 0 + _ ≤ _; exact Nat.le_of_eq rfl) (hb hby dsn0_6) rfl e0 (by decide) (by decide) (fun v6 T6 L6 X6 hQ6 K6 hown6 R6 => ?_)
  obtain ⟨rfl, M6, KP6, ST6⟩ := hQ6
  show oG p e below _ T6 (mkF m 9 #[.val (.ref x1), .val (.ref s1)] [])
  refine own_retHV X6 K6 rfl hx hlk hret (hb hby dsn0_9) ?_ (by decide) (by decide)
  exact ⟨rfl, Fr.app N0 M6, KP6, ST6⟩
theorem ef (m : MethodId) (x0 : Int32) (x1 : Int32) (x2 : Int32) (x3 : Int32) (x4 : Int32) : entryFrame m #[(.int x0), (.int x1), (.int x2), (.int x3), (.int x4)] maxLocals = mkF m 0 #[.val (.int x0), .val (.int x1), .val (.int x2), .val (.int x3), .val (.int x4), .unset, .unset, .unset, .unset, .unset, .unset, .unset] [] := by first | (simp [entryFrame, mkF, argsToLocals, Value.category, maxLocals]; done) | rfl
theorem pd_15 : parseMethodDescriptor "([C)V" = some ⟨[(.array .char)], none⟩ := by decide +kernel
theorem pd_16 : parseMethodDescriptor "(Ljava/lang/String;)Z" = some ⟨[(.object "java/lang/String")], some .boolean⟩ := by decide +kernel
theorem pd_17 : parseMethodDescriptor "(C)Z" = some ⟨[.char], some .boolean⟩ := by decide +kernel
set_option maxRecDepth 65536 in
set_option maxHeartbeats 40000000 in
theorem rm0 (l : Launch) (Z : State) (a0 : Array Value) (hw : ∀ d ∈ tables_1, d.before a0 Z = true) (ws : List Jvm.Cond) (p1 : Int32) (p2 : Int32) (p3 : Int32) (p4 : Int32) (p5 : Int32) (CS : Int32) (FM : Value) (h0 : Heap) (n0 : Nat) (Z0 : n0 ≤ h0.size) (hE : EW Z a0 consts_1) (wS : ∀ a ∈ Bundle.stringAtoms, a.before a0 Z = true) (O0 : Old Z n0 h0) (SC : Sta Z Z.heap "java/lang/String" "COMPACT_STRINGS" "Z" (.int CS)) (SF : Sta Z Z.heap "jdk/internal/util/Preconditions" "SIOOBE_FORMATTER" "Ljava/util/function/BiFunction;" FM) (hCS : ¬ (CS = (0 : Int32))) (rFM : FM.isRef = true) (SA : Sta Z Z.heap "java/lang/StringUTF16" "$assertionsDisabled" "Z" (.int 1)) (SH : Sta Z Z.heap "java/lang/StringUTF16" "HI_BYTE_SHIFT" "I" (.int 0)) (SL : Sta Z Z.heap "java/lang/StringUTF16" "LO_BYTE_SHIFT" "I" (.int 8)) :
    own_MetH l Z consts_1 ws x code maxLocals ret room_1 #[(.int p1), (.int p2), (.int p3), (.int p4), (.int p5)] h0 (fun v h L => v = some (.int 1) ∧ Fr n0 L) (fun _ => True) := by
  refine own_bodyH (plainFor_of_name pn_3) hE ?_
  intro p e s m below meth c s₁ hx hby hml hret hlk hown hnm X0 e0 K0 hPv
  have hZ : Z.Warmed39 s.vm := K0.1
  have hml : c.maxLocals = 12 := hml
  have hown : s.vm.findClass "com/example/loqix/loqix/TopicNameIsValidPinLaw" = some m.cls := hown
  have N0 := Fr.nil n0
  have hws : ∀ d ∈ StrChars.Road.words, d.before a0 Z = true := fun d hd => hw d ((by decide +kernel : ∀ d ∈ StrChars.Road.words, d ∈ tables_1) d hd)
  have hln : ∀ d ∈ StrChars.Road.wordsLen, d.before a0 Z = true := fun d hd => hw d ((by decide +kernel : ∀ d ∈ StrChars.Road.wordsLen, d ∈ tables_1) d hd)
  refine own_cast (ef m p1 p2 p3 p4 p5) ?_
  show oG p e below _ s₁ (mkF m 0 #[.val (.int p1), .val (.int p2), .val (.int p3), .val (.int p4), .val (.int p5), .unset, .unset, .unset, .unset, .unset, .unset, .unset] [])
  refine oS (fun t k => XS.iloadN X0.here hx rfl (hb hby at_0) rfl  k) ?_
  refine oS (fun t k => XS.bipush X0.here hx rfl (hb hby at_1) k) ?_
  refine oS (fun t k => XS.iand X0.here hx rfl (hb hby at_3) rfl k) ?_
  show oG p e below _ s₁ (mkF m 4 #[.val (.int p1), .val (.int p2), .val (.int p3), .val (.int p4), .val (.int p5), .unset, .unset, .unset, .unset, .unset, .unset, .unset] [(.int (p1 &&& (7 : Int32)))])
  refine oS (fun t k => XS.istore X0.here hx rfl (hb hby at_4) rfl (l' := #[.val (.int p1), .val (.int p2), .val (.int p3), .val (.int p4), .val (.int p5), .val (.int (p1 &&& (7 : Int32))), .unset, .unset, .unset, .unset, .unset, .unset]) rfl k) ?_
  show oG p e below _ s₁ (mkF m 6 #[.val (.int p1), .val (.int p2), .val (.int p3), .val (.int p4), .val (.int p5), .val (.int (p1 &&& (7 : Int32))), .unset, .unset, .unset, .unset, .unset, .unset] [])
  refine oS (fun t k => XS.iloadN X0.here hx rfl (hb hby at_6) rfl  k) ?_
  refine oS (fun t k => XS.i2c X0.here hx rfl (hb hby at_7) rfl k) ?_
  show oG p e below _ s₁ (mkF m 8 #[.val (.int p1), .val (.int p2), .val (.int p3), .val (.int p4), .val (.int p5), .val (.int (p1 &&& (7 : Int32))), .unset, .unset, .unset, .unset, .unset, .unset] [(.int (p2.toUInt32.toUInt16.toUInt32.toInt32))])
  refine oS (fun t k => XS.istore X0.here hx rfl (hb hby at_8) rfl (l' := #[.val (.int p1), .val (.int p2), .val (.int p3), .val (.int p4), .val (.int p5), .val (.int (p1 &&& (7 : Int32))), .val (.int (p2.toUInt32.toUInt16.toUInt32.toInt32)), .unset, .unset, .unset, .unset, .unset]) rfl k) ?_
  show oG p e below _ s₁ (mkF m 10 #[.val (.int p1), .val (.int p2), .val (.int p3), .val (.int p4), .val (.int p5), .val (.int (p1 &&& (7 : Int32))), .val (.int (p2.toUInt32.toUInt16.toUInt32.toInt32)), .unset, .unset, .unset, .unset, .unset] [])
  refine oS (fun t k => XS.iloadN X0.here hx rfl (hb hby at_10) rfl  k) ?_
  refine oS (fun t k => XS.i2c X0.here hx rfl (hb hby at_11) rfl k) ?_
  show oG p e below _ s₁ (mkF m 12 #[.val (.int p1), .val (.int p2), .val (.int p3), .val (.int p4), .val (.int p5), .val (.int (p1 &&& (7 : Int32))), .val (.int (p2.toUInt32.toUInt16.toUInt32.toInt32)), .unset, .unset, .unset, .unset, .unset] [(.int (p3.toUInt32.toUInt16.toUInt32.toInt32))])
  refine oS (fun t k => XS.istore X0.here hx rfl (hb hby at_12) rfl (l' := #[.val (.int p1), .val (.int p2), .val (.int p3), .val (.int p4), .val (.int p5), .val (.int (p1 &&& (7 : Int32))), .val (.int (p2.toUInt32.toUInt16.toUInt32.toInt32)), .val (.int (p3.toUInt32.toUInt16.toUInt32.toInt32)), .unset, .unset, .unset, .unset]) rfl k) ?_
  show oG p e below _ s₁ (mkF m 14 #[.val (.int p1), .val (.int p2), .val (.int p3), .val (.int p4), .val (.int p5), .val (.int (p1 &&& (7 : Int32))), .val (.int (p2.toUInt32.toUInt16.toUInt32.toInt32)), .val (.int (p3.toUInt32.toUInt16.toUInt32.toInt32)), .unset, .unset, .unset, .unset] [])
  refine oS (fun t k => XS.iloadN X0.here hx rfl (hb hby at_14) rfl  k) ?_
  refine oS (fun t k => XS.i2c X0.here hx rfl (hb hby at_15) rfl k) ?_
  show oG p e below _ s₁ (mkF m 16 #[.val (.int p1), .val (.int p2), .val (.int p3), .val (.int p4), .val (.int p5), .val (.int (p1 &&& (7 : Int32))), .val (.int (p2.toUInt32.toUInt16.toUInt32.toInt32)), .val (.int (p3.toUInt32.toUInt16.toUInt32.toInt32)), .unset, .unset, .unset, .unset] [(.int (p4.toUInt32.toUInt16.toUInt32.toInt32))])
  refine oS (fun t k => XS.istore X0.here hx rfl (hb hby at_16) rfl (l' := #[.val (.int p1), .val (.int p2), .val (.int p3), .val (.int p4), .val (.int p5), .val (.int (p1 &&& (7 : Int32))), .val (.int (p2.toUInt32.toUInt16.toUInt32.toInt32)), .val (.int (p3.toUInt32.toUInt16.toUInt32.toInt32)), .val (.int (p4.toUInt32.toUInt16.toUInt32.toInt32)), .unset, .unset, .unset]) rfl k) ?_
  show oG p e below _ s₁ (mkF m 18 #[.val (.int p1), .val (.int p2), .val (.int p3), .val (.int p4), .val (.int p5), .val (.int (p1 &&& (7 : Int32))), .val (.int (p2.toUInt32.toUInt16.toUInt32.toInt32)), .val (.int (p3.toUInt32.toUInt16.toUInt32.toInt32)), .val (.int (p4.toUInt32.toUInt16.toUInt32.toInt32)), .unset, .unset, .unset] [])
  refine oS (fun t k => XS.iload X0.here hx rfl (hb hby at_18) rfl  k) ?_
  refine oS (fun t k => XS.i2c X0.here hx rfl (hb hby at_20) rfl k) ?_
  show oG p e below _ s₁ (mkF m 21 #[.val (.int p1), .val (.int p2), .val (.int p3), .val (.int p4), .val (.int p5), .val (.int (p1 &&& (7 : Int32))), .val (.int (p2.toUInt32.toUInt16.toUInt32.toInt32)), .val (.int (p3.toUInt32.toUInt16.toUInt32.toInt32)), .val (.int (p4.toUInt32.toUInt16.toUInt32.toInt32)), .unset, .unset, .unset] [(.int (p5.toUInt32.toUInt16.toUInt32.toInt32))])
  refine oS (fun t k => XS.istore X0.here hx rfl (hb hby at_21) rfl (l' := #[.val (.int p1), .val (.int p2), .val (.int p3), .val (.int p4), .val (.int p5), .val (.int (p1 &&& (7 : Int32))), .val (.int (p2.toUInt32.toUInt16.toUInt32.toInt32)), .val (.int (p3.toUInt32.toUInt16.toUInt32.toInt32)), .val (.int (p4.toUInt32.toUInt16.toUInt32.toInt32)), .val (.int (p5.toUInt32.toUInt16.toUInt32.toInt32)), .unset, .unset]) rfl k) ?_
  show oG p e below _ s₁ (mkF m 23 #[.val (.int p1), .val (.int p2), .val (.int p3), .val (.int p4), .val (.int p5), .val (.int (p1 &&& (7 : Int32))), .val (.int (p2.toUInt32.toUInt16.toUInt32.toInt32)), .val (.int (p3.toUInt32.toUInt16.toUInt32.toInt32)), .val (.int (p4.toUInt32.toUInt16.toUInt32.toInt32)), .val (.int (p5.toUInt32.toUInt16.toUInt32.toInt32)), .unset, .unset] [])
  have hr0 := own_i2c p2
  have hr1 := own_i2c p3
  have hr2 := own_i2c p4
  have hr3 := own_i2c p5
  generalize (p2.toUInt32.toUInt16.toUInt32.toInt32) = c0 at hr0 ⊢
  generalize (p3.toUInt32.toUInt16.toUInt32.toInt32) = c1 at hr1 ⊢
  generalize (p4.toUInt32.toUInt16.toUInt32.toInt32) = c2 at hr2 ⊢
  generalize (p5.toUInt32.toUInt16.toUInt32.toInt32) = c3 at hr3 ⊢
  show oG p e below _ s₁ (mkF m 23 #[.val (.int p1), .val (.int p2), .val (.int p3), .val (.int p4), .val (.int p5), .val (.int (p1 &&& (7 : Int32))), .val (.int c0), .val (.int c1), .val (.int c2), .val (.int c3), .unset, .unset] [])
  rcases own_m7 p1 with hq | hq | hq | hq | hq | hq | hq | hq
  · rw [hq]
    show oG p e below _ s₁ (mkF m 23 #[.val (.int p1), .val (.int p2), .val (.int p3), .val (.int p4), .val (.int p5), .val (.int 0), .val (.int c0), .val (.int c1), .val (.int c2), .val (.int c3), .unset, .unset] [])
    refine oS (fun t k => XS.iload X0.here hx rfl (hb hby at_23) rfl  k) ?_
    refine oS (fun t k => XS.iconst X0.here hx rfl (hb hby at_25) k) ?_
    show oG p e below _ s₁ (mkF m 26 #[.val (.int p1), .val (.int p2), .val (.int p3), .val (.int p4), .val (.int p5), .val (.int 0), .val (.int c0), .val (.int c1), .val (.int c2), .val (.int c3), .unset, .unset] [(.int 5), (.int 0)])
    refine oS (fun t k => XS.icmpYes X0.here hx rfl (pc0 := 26) (pc' := 42) rfl (hb hby at_26) rfl (feq (by decide : ¬ (0 : Int32) = 5)).2 (by decide) (by decide) k) ?_
    show oG p e below _ s₁ (mkF m 42 #[.val (.int p1), .val (.int p2), .val (.int p3), .val (.int p4), .val (.int p5), .val (.int 0), .val (.int c0), .val (.int c1), .val (.int c2), .val (.int c3), .unset, .unset] [])
    refine oS (fun t k => XS.iload X0.here hx rfl (hb hby at_42) rfl  k) ?_
    refine oS (fun t k => XS.bipush X0.here hx rfl (hb hby at_44) k) ?_
    show oG p e below _ s₁ (mkF m 46 #[.val (.int p1), .val (.int p2), .val (.int p3), .val (.int p4), .val (.int p5), .val (.int 0), .val (.int c0), .val (.int c1), .val (.int c2), .val (.int c3), .unset, .unset] [(.int 6), (.int 0)])
    refine oS (fun t k => XS.icmpNo X0.here hx rfl (hb hby at_46) rfl (feq (by decide : ¬ (0 : Int32) = 6)).1 k) ?_
    show oG p e below _ s₁ (mkF m 49 #[.val (.int p1), .val (.int p2), .val (.int p3), .val (.int p4), .val (.int p5), .val (.int 0), .val (.int c0), .val (.int c1), .val (.int c2), .val (.int c3), .unset, .unset] [])
    refine oS (fun t k => XS.iload X0.here hx rfl (hb hby at_49) rfl  k) ?_
    refine oS (fun t k => XS.bipush X0.here hx rfl (hb hby at_51) k) ?_
    show oG p e below _ s₁ (mkF m 53 #[.val (.int p1), .val (.int p2), .val (.int p3), .val (.int p4), .val (.int p5), .val (.int 0), .val (.int c0), .val (.int c1), .val (.int c2), .val (.int c3), .unset, .unset] [(.int 7), (.int 0)])
    refine oS (fun t k => XS.icmpYes X0.here hx rfl (pc0 := 53) (pc' := 114) rfl (hb hby at_53) rfl (feq (by decide : ¬ (0 : Int32) = 7)).2 (by decide) (by decide) k) ?_
    show oG p e below _ s₁ (mkF m 114 #[.val (.int p1), .val (.int p2), .val (.int p3), .val (.int p4), .val (.int p5), .val (.int 0), .val (.int c0), .val (.int c1), .val (.int c2), .val (.int c3), .unset, .unset] [])
    refine oS (fun t k => XS.iload X0.here hx rfl (hb hby at_114) rfl  k) ?_
    show oG p e below _ s₁ (mkF m 116 #[.val (.int p1), .val (.int p2), .val (.int p3), .val (.int p4), .val (.int p5), .val (.int 0), .val (.int c0), .val (.int c1), .val (.int c2), .val (.int c3), .unset, .unset] [(.int 0)])
    refine oS (fun t k => XS.ifNo X0.here hx rfl (hb hby at_116) rfl ((if0 _ _).trans (teq (rfl : (0 : Int32) = 0)).2) k) ?_
    show oG p e below _ s₁ (mkF m 119 #[.val (.int p1), .val (.int p2), .val (.int p3), .val (.int p4), .val (.int p5), .val (.int 0), .val (.int c0), .val (.int c1), .val (.int c2), .val (.int c3), .unset, .unset] [])
    obtain ⟨T119, h119, X119, e119, E119, A119, D119, -, st119⟩ := newO X0 hx hZ hown (oW hw 0 rfl) (oW hw 1 rfl) (oW hw 2 rfl) e0 (g := (mkF m 119 #[.val (.int p1), .val (.int p2), .val (.int p3), .val (.int p4), .val (.int p5), .val (.int 0), .val (.int c0), .val (.int c1), .val (.int c2), .val (.int c3), .unset, .unset] [])) rfl (hb hby at_119) (by decide) (by decide)
    obtain ⟨b119, g119⟩ : ∃ z, z = h0.size := ⟨_, rfl⟩
    rw [← g119] at A119 D119 st119
    have F119_value : Fld Z h119 b119 "java/lang/String" "value" "[B" .null := D119 (Or.inr (oW hw 16 rfl)) (ty := (.array .byte)) (by decide)
    have F119_coder : Fld Z h119 b119 "java/lang/String" "coder" "B" (.int 0) := D119 (Or.inr (oW hw 17 rfl)) (ty := .byte) (by decide)
    refine oS st119 ?_
    show oG p e below _ T119 (mkF m 122 #[.val (.int p1), .val (.int p2), .val (.int p3), .val (.int p4), .val (.int p5), .val (.int 0), .val (.int c0), .val (.int c1), .val (.int c2), .val (.int c3), .unset, .unset] [(.ref b119)])
    have SB := Safe.ext E119 K0.2.2.1.1 (Safe.new (Nat.le_of_eq g119.symm))
    have Op := O0.ext E119
    have Zp : n0 ≤ h119.size := Nat.le_trans Z0 E119.1
    have gs : n0 ≤ b119 := Nat.le_trans Z0 (Nat.le_of_eq g119.symm)
    have K119 := K0.ext E119
    refine oS (fun t k => XS.dup X119.here hx rfl (hb hby at_122) rfl rfl k) ?_
    refine oS (fun t k => XS.iconst X119.here hx rfl (hb hby at_123) k) ?_
    show oG p e below _ T119 (mkF m 124 #[.val (.int p1), .val (.int p2), .val (.int p3), .val (.int p4), .val (.int p5), .val (.int 0), .val (.int c0), .val (.int c1), .val (.int c2), .val (.int c3), .unset, .unset] [(.int 0), (.ref b119), (.ref b119)])
    obtain ⟨T124, h124, k124, X124, e124, E124, A124, st124⟩ := newP X119 hx hZ (oW hw 3 rfl) e119 (g := (mkF m 124 #[.val (.int p1), .val (.int p2), .val (.int p3), .val (.int p4), .val (.int p5), .val (.int 0), .val (.int c0), .val (.int c1), .val (.int c2), .val (.int c3), .unset, .unset] [(.int 0), (.ref b119), (.ref b119)])) rfl (hb hby at_124) rfl (by decide) (cap := 0) (by decide) (by decide) (by decide) (by decide)
    obtain ⟨b124, g124⟩ : ∃ z, z = h119.size := ⟨_, rfl⟩
    rw [← g124] at A124 st124
    have V124 : Arv Z h124 b124 k124 .char (0 : Int32) [] (.int 0) := (Arv.new A124 (by decide)).pad (pad_rep [] (.int 0) 0)
    refine oS st124 ?_
    show oG p e below _ T124 (mkF m 126 #[.val (.int p1), .val (.int p2), .val (.int p3), .val (.int p4), .val (.int p5), .val (.int 0), .val (.int c0), .val (.int c1), .val (.int c2), .val (.int c3), .unset, .unset] [(.ref b124), (.ref b119), (.ref b119)])
    have SQ := Safe.ext E124 K119.2.2.1.1 (Safe.new (Nat.le_of_eq g124.symm))
    have SB := Safe.ext E124 K119.2.2.1.1 SB
    have Oq := Op.ext E124
    have Zq : n0 ≤ h124.size := Nat.le_trans Zp E124.1
    have gq : n0 ≤ b124 := Nat.le_trans Zp (Nat.le_of_eq g124.symm)
    have ne : b119 ≠ b124 := Nat.ne_of_lt (Nat.lt_of_lt_of_le A119.lt (Nat.le_of_eq g124.symm))
    have EX := A119.ext E124
    have FV := F119_value.ext E124
    have FC := F119_coder.ext E124
    have K124 := K119.ext E124
    refine own_callIH X124 hx K124 (y := (⟨"java/lang/String", "<init>", "([C)V"⟩ : MethodName)) (W := 1) (kc := 4) (ks := 8) rfl hown (oW hw 4 rfl) (oW hw 5 rfl) (oW hw 6 rfl) (own_backH (W := 1) (rm_s0 l Z a0 hw [] b119 b124 k124 _ _ _ h124 n0 Zq hE wS EX FV FC gs V124) K124 (fun vm' r => r.safe EX.lt SB) (oW hw 6 rfl) (oW hw 2 rfl) (by decide) (by decide)) (by decide) (g := (mkF m 126 #[.val (.int p1), .val (.int p2), .val (.int p3), .val (.int p4), .val (.int p5), .val (.int 0), .val (.int c0), .val (.int c1), .val (.int c2), .val (.int c3), .unset, .unset] [(.ref b124), (.ref b119), (.ref b119)])) rfl (by rw [hml]; rfl) (a := b119) (argsL := [(.ref b124)]) (rest := [(.ref b119)]) (lenOf pd_15 rfl) rfl (by show 2 * 0 + _ ≤ _; exact Nat.le_of_eq rfl) (hb hby at_126) rfl e124 (by decide) (by decide) (fun vC TC LC XC hQC KC hownC RC => ?_)
    obtain ⟨rfl, MC, KP, S0, kb0, cd0, N20, vs0, SE, SV, SCo, SAr, Scd⟩ := hQC
    have NC := Fr.app N0 MC
    have OC := Oq.keep KP (allS gs all0)
    have ZC : n0 ≤ TC.heap.size := Nat.le_trans Zq KP.1
    show oG p e below _ TC (mkF m 129 #[.val (.int p1), .val (.int p2), .val (.int p3), .val (.int p4), .val (.int p5), .val (.int 0), .val (.int c0), .val (.int c1), .val (.int c2), .val (.int c3), .unset, .unset] [(.ref b119)])
    refine oS (fun t k => XS.astore XC.here hx rfl (hb hby at_129) rfl rfl (l' := #[.val (.int p1), .val (.int p2), .val (.int p3), .val (.int p4), .val (.int p5), .val (.int 0), .val (.int c0), .val (.int c1), .val (.int c2), .val (.int c3), .val (.ref b119), .unset]) rfl k) ?_
    show oG p e below _ TC (mkF m 131 #[.val (.int p1), .val (.int p2), .val (.int p3), .val (.int p4), .val (.int p5), .val (.int 0), .val (.int c0), .val (.int c1), .val (.int c2), .val (.int c3), .val (.ref b119), .unset] [])
    refine oS (fun t k => XS.iconst XC.here hx rfl (hb hby at_131) k) ?_
    refine oS (fun t k => XS.istore XC.here hx rfl (hb hby at_132) rfl (l' := #[.val (.int p1), .val (.int p2), .val (.int p3), .val (.int p4), .val (.int p5), .val (.int 0), .val (.int c0), .val (.int c1), .val (.int c2), .val (.int c3), .val (.ref b119), .val (.int 0)]) rfl k) ?_
    show oG p e below _ TC (mkF m 134 #[.val (.int p1), .val (.int p2), .val (.int p3), .val (.int p4), .val (.int p5), .val (.int 0), .val (.int c0), .val (.int c1), .val (.int c2), .val (.int c3), .val (.ref b119), .val (.int 0)] [])
    refine oS (fun t k => XS.goto XC.here hx rfl (pc0 := 134) (pc' := 362) rfl (hb hby at_134) (by decide) (by decide) k) ?_
    show oG p e below _ TC (mkF m 362 #[.val (.int p1), .val (.int p2), .val (.int p3), .val (.int p4), .val (.int p5), .val (.int 0), .val (.int c0), .val (.int c1), .val (.int c2), .val (.int c3), .val (.ref b119), .val (.int 0)] [])
    refine oS (fun t k => XS.aload XC.here hx rfl (hb hby at_362) rfl rfl k) ?_
    show oG p e below _ TC (mkF m 364 #[.val (.int p1), .val (.int p2), .val (.int p3), .val (.int p4), .val (.int p5), .val (.int 0), .val (.int c0), .val (.int c1), .val (.int c2), .val (.int c3), .val (.ref b119), .val (.int 0)] [(.ref b119)])
    refine own_callS XC hx KC.1 (y := (⟨"com/example/loqix/loqix/TopicName", "isValid", "(Ljava/lang/String;)Z"⟩ : MethodName)) (W := 0) (kc := 0) (ks := 0) hownC (oW hw 22 rfl) (oW hw 23 rfl) (oW hw 24 rfl) (oW hw 25 rfl) (own_back (W := 0) (rm_tn l Z a0 hw [] b119 S0 kb0 cd0 N20 vs0 [] CS FM TC.heap n0 ZC SE SV SCo SAr Scd (Nat.le_of_ble_eq_true rfl) (fun c hc => nomatch hc) (SC.ext OC.2) (SF.ext OC.2) hCS rFM (SA.ext OC.2) (SH.ext OC.2) (SL.ext OC.2)) KC.1 (oW hw 25 rfl) (oW hw 24 rfl) (by decide) (by decide)) (by decide) (g := (mkF m 364 #[.val (.int p1), .val (.int p2), .val (.int p3), .val (.int p4), .val (.int p5), .val (.int 0), .val (.int c0), .val (.int c1), .val (.int c2), .val (.int c3), .val (.ref b119), .val (.int 0)] [(.ref b119)])) rfl (by rw [hml]; rfl) (argsL := [(.ref b119)]) (rest := []) (lenOf pd_16 rfl) rfl (by show 2 * 0 + _ ≤ _; exact Nat.le_of_eq rfl) (hb hby at_364) rfl rfl (by decide) (by decide) (fun vV TV LV XV hQV => ?_)
    obtain ⟨rfl, MV, eV⟩ := hQV
    rw [show own_val [] = 0 from by decide]
    show oG p e below _ TV (mkF m 367 #[.val (.int p1), .val (.int p2), .val (.int p3), .val (.int p4), .val (.int p5), .val (.int 0), .val (.int c0), .val (.int c1), .val (.int c2), .val (.int c3), .val (.ref b119), .val (.int 0)] [(.int 0)])
    refine oS (fun t k => XS.iload XV.here hx rfl (hb hby at_367) rfl  k) ?_
    show oG p e below _ TV (mkF m 369 #[.val (.int p1), .val (.int p2), .val (.int p3), .val (.int p4), .val (.int p5), .val (.int 0), .val (.int c0), .val (.int c1), .val (.int c2), .val (.int c3), .val (.ref b119), .val (.int 0)] [(.int 0), (.int 0)])
    refine oS (fun t k => XS.icmpNo XV.here hx rfl (hb hby at_369) rfl (teq (rfl : (0 : Int32) = 0)).2 k) ?_
    show oG p e below _ TV (mkF m 372 #[.val (.int p1), .val (.int p2), .val (.int p3), .val (.int p4), .val (.int p5), .val (.int 0), .val (.int c0), .val (.int c1), .val (.int c2), .val (.int c3), .val (.ref b119), .val (.int 0)] [])
    refine oS (fun t k => XS.iconst XV.here hx rfl (hb hby at_372) k) ?_
    refine oS (fun t k => XS.goto XV.here hx rfl (pc0 := 373) (pc' := 377) rfl (hb hby at_373) (by decide) (by decide) k) ?_
    show oG p e below _ TV (mkF m 377 #[.val (.int p1), .val (.int p2), .val (.int p3), .val (.int p4), .val (.int p5), .val (.int 0), .val (.int c0), .val (.int c1), .val (.int c2), .val (.int c3), .val (.ref b119), .val (.int 0)] [(.int 1)])
    refine own_retHN (t := .boolean) XV KC eV hx hlk hret (by simp) (hb hby at_377) ?_ (by decide) (by decide)
    exact ⟨rfl, Fr.app NC MV⟩
  · rw [hq]
    show oG p e below _ s₁ (mkF m 23 #[.val (.int p1), .val (.int p2), .val (.int p3), .val (.int p4), .val (.int p5), .val (.int 1), .val (.int c0), .val (.int c1), .val (.int c2), .val (.int c3), .unset, .unset] [])
    refine oS (fun t k => XS.iload X0.here hx rfl (hb hby at_23) rfl  k) ?_
    refine oS (fun t k => XS.iconst X0.here hx rfl (hb hby at_25) k) ?_
    show oG p e below _ s₁ (mkF m 26 #[.val (.int p1), .val (.int p2), .val (.int p3), .val (.int p4), .val (.int p5), .val (.int 1), .val (.int c0), .val (.int c1), .val (.int c2), .val (.int c3), .unset, .unset] [(.int 5), (.int 1)])
    refine oS (fun t k => XS.icmpYes X0.here hx rfl (pc0 := 26) (pc' := 42) rfl (hb hby at_26) rfl (feq (by decide : ¬ (1 : Int32) = 5)).2 (by decide) (by decide) k) ?_
    show oG p e below _ s₁ (mkF m 42 #[.val (.int p1), .val (.int p2), .val (.int p3), .val (.int p4), .val (.int p5), .val (.int 1), .val (.int c0), .val (.int c1), .val (.int c2), .val (.int c3), .unset, .unset] [])
    refine oS (fun t k => XS.iload X0.here hx rfl (hb hby at_42) rfl  k) ?_
    refine oS (fun t k => XS.bipush X0.here hx rfl (hb hby at_44) k) ?_
    show oG p e below _ s₁ (mkF m 46 #[.val (.int p1), .val (.int p2), .val (.int p3), .val (.int p4), .val (.int p5), .val (.int 1), .val (.int c0), .val (.int c1), .val (.int c2), .val (.int c3), .unset, .unset] [(.int 6), (.int 1)])
    refine oS (fun t k => XS.icmpNo X0.here hx rfl (hb hby at_46) rfl (feq (by decide : ¬ (1 : Int32) = 6)).1 k) ?_
    show oG p e below _ s₁ (mkF m 49 #[.val (.int p1), .val (.int p2), .val (.int p3), .val (.int p4), .val (.int p5), .val (.int 1), .val (.int c0), .val (.int c1), .val (.int c2), .val (.int c3), .unset, .unset] [])
    refine oS (fun t k => XS.iload X0.here hx rfl (hb hby at_49) rfl  k) ?_
    refine oS (fun t k => XS.bipush X0.here hx rfl (hb hby at_51) k) ?_
    show oG p e below _ s₁ (mkF m 53 #[.val (.int p1), .val (.int p2), .val (.int p3), .val (.int p4), .val (.int p5), .val (.int 1), .val (.int c0), .val (.int c1), .val (.int c2), .val (.int c3), .unset, .unset] [(.int 7), (.int 1)])
    refine oS (fun t k => XS.icmpYes X0.here hx rfl (pc0 := 53) (pc' := 114) rfl (hb hby at_53) rfl (feq (by decide : ¬ (1 : Int32) = 7)).2 (by decide) (by decide) k) ?_
    show oG p e below _ s₁ (mkF m 114 #[.val (.int p1), .val (.int p2), .val (.int p3), .val (.int p4), .val (.int p5), .val (.int 1), .val (.int c0), .val (.int c1), .val (.int c2), .val (.int c3), .unset, .unset] [])
    refine oS (fun t k => XS.iload X0.here hx rfl (hb hby at_114) rfl  k) ?_
    show oG p e below _ s₁ (mkF m 116 #[.val (.int p1), .val (.int p2), .val (.int p3), .val (.int p4), .val (.int p5), .val (.int 1), .val (.int c0), .val (.int c1), .val (.int c2), .val (.int c3), .unset, .unset] [(.int 1)])
    refine oS (fun t k => XS.ifYes X0.here hx rfl (pc0 := 116) (pc' := 137) rfl (hb hby at_116) rfl ((if0 _ _).trans (feq (by decide : ¬ (1 : Int32) = 0)).2) (by decide) (by decide) k) ?_
    show oG p e below _ s₁ (mkF m 137 #[.val (.int p1), .val (.int p2), .val (.int p3), .val (.int p4), .val (.int p5), .val (.int 1), .val (.int c0), .val (.int c1), .val (.int c2), .val (.int c3), .unset, .unset] [])
    refine oS (fun t k => XS.iload X0.here hx rfl (hb hby at_137) rfl  k) ?_
    refine oS (fun t k => XS.iconst X0.here hx rfl (hb hby at_139) k) ?_
    show oG p e below _ s₁ (mkF m 140 #[.val (.int p1), .val (.int p2), .val (.int p3), .val (.int p4), .val (.int p5), .val (.int 1), .val (.int c0), .val (.int c1), .val (.int c2), .val (.int c3), .unset, .unset] [(.int 1), (.int 1)])
    refine oS (fun t k => XS.icmpNo X0.here hx rfl (hb hby at_140) rfl (teq (rfl : (1 : Int32) = 1)).2 k) ?_
    show oG p e below _ s₁ (mkF m 143 #[.val (.int p1), .val (.int p2), .val (.int p3), .val (.int p4), .val (.int p5), .val (.int 1), .val (.int c0), .val (.int c1), .val (.int c2), .val (.int c3), .unset, .unset] [])
    obtain ⟨T143, h143, X143, e143, E143, A143, D143, -, st143⟩ := newO X0 hx hZ hown (oW hw 0 rfl) (oW hw 1 rfl) (oW hw 2 rfl) e0 (g := (mkF m 143 #[.val (.int p1), .val (.int p2), .val (.int p3), .val (.int p4), .val (.int p5), .val (.int 1), .val (.int c0), .val (.int c1), .val (.int c2), .val (.int c3), .unset, .unset] [])) rfl (hb hby at_143) (by decide) (by decide)
    obtain ⟨b143, g143⟩ : ∃ z, z = h0.size := ⟨_, rfl⟩
    rw [← g143] at A143 D143 st143
    have F143_value : Fld Z h143 b143 "java/lang/String" "value" "[B" .null := D143 (Or.inr (oW hw 16 rfl)) (ty := (.array .byte)) (by decide)
    have F143_coder : Fld Z h143 b143 "java/lang/String" "coder" "B" (.int 0) := D143 (Or.inr (oW hw 17 rfl)) (ty := .byte) (by decide)
    refine oS st143 ?_
    show oG p e below _ T143 (mkF m 146 #[.val (.int p1), .val (.int p2), .val (.int p3), .val (.int p4), .val (.int p5), .val (.int 1), .val (.int c0), .val (.int c1), .val (.int c2), .val (.int c3), .unset, .unset] [(.ref b143)])
    have SB := Safe.ext E143 K0.2.2.1.1 (Safe.new (Nat.le_of_eq g143.symm))
    have Op := O0.ext E143
    have Zp : n0 ≤ h143.size := Nat.le_trans Z0 E143.1
    have gs : n0 ≤ b143 := Nat.le_trans Z0 (Nat.le_of_eq g143.symm)
    have K143 := K0.ext E143
    refine oS (fun t k => XS.dup X143.here hx rfl (hb hby at_146) rfl rfl k) ?_
    refine oS (fun t k => XS.iconst X143.here hx rfl (hb hby at_147) k) ?_
    show oG p e below _ T143 (mkF m 148 #[.val (.int p1), .val (.int p2), .val (.int p3), .val (.int p4), .val (.int p5), .val (.int 1), .val (.int c0), .val (.int c1), .val (.int c2), .val (.int c3), .unset, .unset] [(.int 1), (.ref b143), (.ref b143)])
    obtain ⟨T148, h148, k148, X148, e148, E148, A148, st148⟩ := newP X143 hx hZ (oW hw 3 rfl) e143 (g := (mkF m 148 #[.val (.int p1), .val (.int p2), .val (.int p3), .val (.int p4), .val (.int p5), .val (.int 1), .val (.int c0), .val (.int c1), .val (.int c2), .val (.int c3), .unset, .unset] [(.int 1), (.ref b143), (.ref b143)])) rfl (hb hby at_148) rfl (by decide) (cap := 1) (by decide) (by decide) (by decide) (by decide)
    obtain ⟨b148, g148⟩ : ∃ z, z = h143.size := ⟨_, rfl⟩
    rw [← g148] at A148 st148
    have V148 : Arv Z h148 b148 k148 .char (1 : Int32) [(.int 0)] (.int 0) := (Arv.new A148 (by decide)).pad (pad_rep [] (.int 0) 1)
    refine oS st148 ?_
    show oG p e below _ T148 (mkF m 150 #[.val (.int p1), .val (.int p2), .val (.int p3), .val (.int p4), .val (.int p5), .val (.int 1), .val (.int c0), .val (.int c1), .val (.int c2), .val (.int c3), .unset, .unset] [(.ref b148), (.ref b143), (.ref b143)])
    have SQ := Safe.ext E148 K143.2.2.1.1 (Safe.new (Nat.le_of_eq g148.symm))
    have SB := Safe.ext E148 K143.2.2.1.1 SB
    have Oq := Op.ext E148
    have Zq : n0 ≤ h148.size := Nat.le_trans Zp E148.1
    have gq : n0 ≤ b148 := Nat.le_trans Zp (Nat.le_of_eq g148.symm)
    have ne : b143 ≠ b148 := Nat.ne_of_lt (Nat.lt_of_lt_of_le A143.lt (Nat.le_of_eq g148.symm))
    have EX := A143.ext E148
    have FV := F143_value.ext E148
    have FC := F143_coder.ext E148
    have K148 := K143.ext E148
    refine oS (fun t k => XS.dup X148.here hx rfl (hb hby at_150) rfl rfl k) ?_
    refine oS (fun t k => XS.iconst X148.here hx rfl (hb hby at_151) k) ?_
    refine oS (fun t k => XS.iload X148.here hx rfl (hb hby at_152) rfl  k) ?_
    show oG p e below _ T148 (mkF m 154 #[.val (.int p1), .val (.int p2), .val (.int p3), .val (.int p4), .val (.int p5), .val (.int 1), .val (.int c0), .val (.int c1), .val (.int c2), .val (.int c3), .unset, .unset] [(.int c0), (.int 0), (.ref b148), (.ref b148), (.ref b143), (.ref b143)])
    obtain ⟨cl154, Ar154, q154, S154, M154, H154, G154⟩ := V148
    have hin154 : ¬ ((0 : Int32) < 0 ∨ cl154.slots.size ≤ ((0 : Int32)).toNatClampNeg) := inb_of S154 ⟨by decide, by decide⟩
    obtain ⟨T154, h154, X154, e154, W154, st154⟩ := stC X148 hx hZ e148 Ar154 (j := (0 : Int32)) hin154 (g := (mkF m 154 #[.val (.int p1), .val (.int p2), .val (.int p3), .val (.int p4), .val (.int p5), .val (.int 1), .val (.int c0), .val (.int c1), .val (.int c2), .val (.int c3), .unset, .unset] [(.int c0), (.int 0), (.ref b148), (.ref b148), (.ref b143), (.ref b143)])) rfl rfl (hb hby at_154)
    refine oS st154 ?_
    have V154 := Arv.set Ar154 q154 S154 M154 H154 G154 (fits_nar_char _) W154 0 rfl (Nat.le_of_ble_eq_true rfl)
    have N154 := Fr.snoc X154 N0 gq
    show oG p e below _ T154 (mkF m 155 #[.val (.int p1), .val (.int p2), .val (.int p3), .val (.int p4), .val (.int p5), .val (.int 1), .val (.int c0), .val (.int c1), .val (.int c2), .val (.int c3), .unset, .unset] [(.ref b148), (.ref b143), (.ref b143)])
    rw [own_narC' hr0] at V154
    have K154 := K148.wr W154 SQ
    have SB := Safe.wr W154 SQ K148.2.2.1.1 SB
    have SQ := Safe.wr W154 SQ K148.2.2.1.1 SQ
    have Oq := Oq.wr W154 gq
    have Zq : n0 ≤ h154.size := Nat.le_trans Zq (Keep.of_wr W154).1
    have EX := EX.wr W154
    have FV := FV.other W154 (Or.inl ne)
    have FC := FC.other W154 (Or.inl ne)
    have hp : ∀ c ∈ ([c0] : List Int32), ¬ c < 0 ∧ ¬ (65535 : Int32) < c := by
      intro c hc
      simp only [List.mem_cons, List.not_mem_nil, or_false] at hc
      rcases hc with rfl
      · exact hr0
    have pays : own_Bk l room_1 p e below (s.setVm s.vm) #[(.int p1), (.int p2), (.int p3), (.int p4), (.int p5)] (⟨"java/lang/String", "<init>", "([C)V"⟩ : MethodName) 3 1 #[(.ref b143), (.ref b148)] h154 2 3 (own_QS Z b143 ([c0] : List Int32) h154 n0) := by
      by_cases hlat : ∀ c ∈ ([c0] : List Int32), ¬ (255 : Int32) < c
      · refine own_Bk.more (kc := 1) (ks := 1) (own_Bk.mono (Q := StrChars.Road.QV Z b143 (1 : Int32) (([c0] : List Int32).map (fun c : Int32 => c.toInt8.toInt32)) h154 n0) (StrChars.Road.backV (W := 1) hZ hws (kI := 4) (oW hw 1 rfl) (cs := ([c0] : List Int32)) (bs := ([c0] : List Int32).map (fun c : Int32 => c.toInt8.toInt32)) (n := 1) gs Zq EX FV FC V154 (SC.ext Oq.2) hCS rfl rfl (by decide) (by decide) (fun c hc => ⟨(hp c hc).1, hlat c hc⟩) rfl (by decide) (by decide)) ?_) (by decide) (by decide)
        rintro v h' L ⟨q1, q2, q3, q4, q5, t, kb, -, -, -, q6, q7⟩
        exact ⟨q1, q2, q3, t, kb, 0, (1 : Int32), _, q4, q6, q5, q7, StrChars.Road.codOf (n := 1) rfl hlat⟩
      · have hbig : 255 < c0 := by
          apply Classical.byContradiction
          intro q
          try simp only [not_or] at q
          apply hlat
          intro c hc
          simp only [List.mem_cons, List.not_mem_nil, or_false] at hc
          rcases hc with rfl
          · exact q
        exact own_back (W := 1) (rm_s1 l Z a0 hw [] b143 b148 k148 _ _ _ CS c0 h154 n0 Zq EX FV FC gs V154 hbig hp (SA.ext Oq.2) (SH.ext Oq.2) (SL.ext Oq.2) (SC.ext Oq.2) hCS) hZ (oW hw 6 rfl) (oW hw 2 rfl) (by decide) (by decide)
    refine own_callI X154 hx hZ (y := (⟨"java/lang/String", "<init>", "([C)V"⟩ : MethodName)) (W := 1) (Q := (own_QS Z b143 ([c0] : List Int32) h154 n0)) (kc := 2) (ks := 3) rfl hown (oW hw 4 rfl) (oW hw 5 rfl) (oW hw 6 rfl) pays (by decide) (g := (mkF m 155 #[.val (.int p1), .val (.int p2), .val (.int p3), .val (.int p4), .val (.int p5), .val (.int 1), .val (.int c0), .val (.int c1), .val (.int c2), .val (.int c3), .unset, .unset] [(.ref b148), (.ref b143), (.ref b143)])) rfl (by rw [hml]; rfl) (a := b143) (argsL := [(.ref b148)]) (rest := [(.ref b143)]) (lenOf pd_15 rfl) rfl (by show 2 * 0 + _ ≤ _; exact Nat.le_of_eq rfl) (hb hby at_155) rfl e154 (by decide) (by decide) (fun vC TC LC XC hQC => ?_)
    obtain ⟨rfl, MC, KP, S0, kb0, cd0, N20, vs0, SE, SV, SCo, SAr, Scd⟩ := hQC
    have KC := K154.keep KP (allS SB all0)
    have NC := Fr.app N154 MC
    have OC := Oq.keep KP (allS gs all0)
    have ZC : n0 ≤ TC.heap.size := Nat.le_trans Zq KP.1
    show oG p e below _ TC (mkF m 158 #[.val (.int p1), .val (.int p2), .val (.int p3), .val (.int p4), .val (.int p5), .val (.int 1), .val (.int c0), .val (.int c1), .val (.int c2), .val (.int c3), .unset, .unset] [(.ref b143)])
    refine oS (fun t k => XS.astore XC.here hx rfl (hb hby at_158) rfl rfl (l' := #[.val (.int p1), .val (.int p2), .val (.int p3), .val (.int p4), .val (.int p5), .val (.int 1), .val (.int c0), .val (.int c1), .val (.int c2), .val (.int c3), .val (.ref b143), .unset]) rfl k) ?_
    show oG p e below _ TC (mkF m 160 #[.val (.int p1), .val (.int p2), .val (.int p3), .val (.int p4), .val (.int p5), .val (.int 1), .val (.int c0), .val (.int c1), .val (.int c2), .val (.int c3), .val (.ref b143), .unset] [])
    refine oS (fun t k => XS.iload XC.here hx rfl (hb hby at_160) rfl  k) ?_
    show oG p e below _ TC (mkF m 162 #[.val (.int p1), .val (.int p2), .val (.int p3), .val (.int p4), .val (.int p5), .val (.int 1), .val (.int c0), .val (.int c1), .val (.int c2), .val (.int c3), .val (.ref b143), .unset] [(.int c0)])
    refine own_callS XC hx hZ (y := (⟨"com/example/loqix/loqix/TopicNameIsValidPinLaw", "ok", "(C)Z"⟩ : MethodName)) (W := 0) (kc := 0) (ks := 0) hown (oW hw 42 rfl) (oW hw 43 rfl) (oW hw 44 rfl) (oW hw 45 rfl) (own_back (W := 0) (rm_ok l Z a0 hw [] c0 TC.heap n0 ZC) hZ (oW hw 45 rfl) (oW hw 44 rfl) (by decide) (by decide)) (by decide) (g := (mkF m 162 #[.val (.int p1), .val (.int p2), .val (.int p3), .val (.int p4), .val (.int p5), .val (.int 1), .val (.int c0), .val (.int c1), .val (.int c2), .val (.int c3), .val (.ref b143), .unset] [(.int c0)])) rfl (by rw [hml]; rfl) (argsL := [(.int c0)]) (rest := []) (lenOf pd_17 rfl) rfl (by show 2 * 0 + _ ≤ _; exact Nat.le_of_eq rfl) (hb hby at_162) rfl rfl (by decide) (by decide) (fun vk0 Tk0 Lk0 Xk0 hQk0 => ?_)
    obtain ⟨rfl, Mk0, ek0⟩ := hQk0
    by_cases hk0 : okc c0
    · rw [own_okv, if_pos hk0]
      show oG p e below _ Tk0 (mkF m 165 #[.val (.int p1), .val (.int p2), .val (.int p3), .val (.int p4), .val (.int p5), .val (.int 1), .val (.int c0), .val (.int c1), .val (.int c2), .val (.int c3), .val (.ref b143), .unset] [(.int 1)])
      refine oS (fun t k => XS.istore Xk0.here hx rfl (hb hby at_165) rfl (l' := #[.val (.int p1), .val (.int p2), .val (.int p3), .val (.int p4), .val (.int p5), .val (.int 1), .val (.int c0), .val (.int c1), .val (.int c2), .val (.int c3), .val (.ref b143), .val (.int 1)]) rfl k) ?_
      show oG p e below _ Tk0 (mkF m 167 #[.val (.int p1), .val (.int p2), .val (.int p3), .val (.int p4), .val (.int p5), .val (.int 1), .val (.int c0), .val (.int c1), .val (.int c2), .val (.int c3), .val (.ref b143), .val (.int 1)] [])
      refine oS (fun t k => XS.goto Xk0.here hx rfl (pc0 := 167) (pc' := 362) rfl (hb hby at_167) (by decide) (by decide) k) ?_
      show oG p e below _ Tk0 (mkF m 362 #[.val (.int p1), .val (.int p2), .val (.int p3), .val (.int p4), .val (.int p5), .val (.int 1), .val (.int c0), .val (.int c1), .val (.int c2), .val (.int c3), .val (.ref b143), .val (.int 1)] [])
      refine oS (fun t k => XS.aload Xk0.here hx rfl (hb hby at_362) rfl rfl k) ?_
      show oG p e below _ Tk0 (mkF m 364 #[.val (.int p1), .val (.int p2), .val (.int p3), .val (.int p4), .val (.int p5), .val (.int 1), .val (.int c0), .val (.int c1), .val (.int c2), .val (.int c3), .val (.ref b143), .val (.int 1)] [(.ref b143)])
      refine own_callS Xk0 hx hZ (y := (⟨"com/example/loqix/loqix/TopicName", "isValid", "(Ljava/lang/String;)Z"⟩ : MethodName)) (W := 0) (kc := 0) (ks := 0) hown (oW hw 22 rfl) (oW hw 23 rfl) (oW hw 24 rfl) (oW hw 25 rfl) (own_back (W := 0) (rm_tn l Z a0 hw [] b143 S0 kb0 cd0 N20 vs0 ([c0] : List Int32) CS FM TC.heap n0 ZC SE SV SCo SAr Scd (Nat.le_of_ble_eq_true rfl) hp (SC.ext OC.2) (SF.ext OC.2) hCS rFM (SA.ext OC.2) (SH.ext OC.2) (SL.ext OC.2)) hZ (oW hw 25 rfl) (oW hw 24 rfl) (by decide) (by decide)) (by decide) (g := (mkF m 364 #[.val (.int p1), .val (.int p2), .val (.int p3), .val (.int p4), .val (.int p5), .val (.int 1), .val (.int c0), .val (.int c1), .val (.int c2), .val (.int c3), .val (.ref b143), .val (.int 1)] [(.ref b143)])) rfl (by rw [hml]; rfl) (argsL := [(.ref b143)]) (rest := []) (lenOf pd_16 rfl) rfl (by show 2 * 0 + _ ≤ _; exact Nat.le_of_eq rfl) (hb hby at_364) rfl ek0 (by decide) (by decide) (fun vV TV LV XV hQV => ?_)
      obtain ⟨rfl, MV, eV⟩ := hQV
      rw [show own_val ([c0] : List Int32) = 1 from own_vyes (Nat.le_of_ble_eq_true rfl) (Nat.le_of_ble_eq_true rfl) (by simp [hk0])]
      show oG p e below _ TV (mkF m 367 #[.val (.int p1), .val (.int p2), .val (.int p3), .val (.int p4), .val (.int p5), .val (.int 1), .val (.int c0), .val (.int c1), .val (.int c2), .val (.int c3), .val (.ref b143), .val (.int 1)] [(.int 1)])
      refine oS (fun t k => XS.iload XV.here hx rfl (hb hby at_367) rfl  k) ?_
      show oG p e below _ TV (mkF m 369 #[.val (.int p1), .val (.int p2), .val (.int p3), .val (.int p4), .val (.int p5), .val (.int 1), .val (.int c0), .val (.int c1), .val (.int c2), .val (.int c3), .val (.ref b143), .val (.int 1)] [(.int 1), (.int 1)])
      refine oS (fun t k => XS.icmpNo XV.here hx rfl (hb hby at_369) rfl (teq (rfl : (1 : Int32) = 1)).2 k) ?_
      show oG p e below _ TV (mkF m 372 #[.val (.int p1), .val (.int p2), .val (.int p3), .val (.int p4), .val (.int p5), .val (.int 1), .val (.int c0), .val (.int c1), .val (.int c2), .val (.int c3), .val (.ref b143), .val (.int 1)] [])
      refine oS (fun t k => XS.iconst XV.here hx rfl (hb hby at_372) k) ?_
      refine oS (fun t k => XS.goto XV.here hx rfl (pc0 := 373) (pc' := 377) rfl (hb hby at_373) (by decide) (by decide) k) ?_
      show oG p e below _ TV (mkF m 377 #[.val (.int p1), .val (.int p2), .val (.int p3), .val (.int p4), .val (.int p5), .val (.int 1), .val (.int c0), .val (.int c1), .val (.int c2), .val (.int c3), .val (.ref b143), .val (.int 1)] [(.int 1)])
      refine own_retHN (t := .boolean) XV KC eV hx hlk hret (by simp) (hb hby at_377) ?_ (by decide) (by decide)
      exact ⟨rfl, Fr.app (Fr.app NC Mk0) MV⟩
    · rw [own_okv, if_neg hk0]
      show oG p e below _ Tk0 (mkF m 165 #[.val (.int p1), .val (.int p2), .val (.int p3), .val (.int p4), .val (.int p5), .val (.int 1), .val (.int c0), .val (.int c1), .val (.int c2), .val (.int c3), .val (.ref b143), .unset] [(.int 0)])
      refine oS (fun t k => XS.istore Xk0.here hx rfl (hb hby at_165) rfl (l' := #[.val (.int p1), .val (.int p2), .val (.int p3), .val (.int p4), .val (.int p5), .val (.int 1), .val (.int c0), .val (.int c1), .val (.int c2), .val (.int c3), .val (.ref b143), .val (.int 0)]) rfl k) ?_
      show oG p e below _ Tk0 (mkF m 167 #[.val (.int p1), .val (.int p2), .val (.int p3), .val (.int p4), .val (.int p5), .val (.int 1), .val (.int c0), .val (.int c1), .val (.int c2), .val (.int c3), .val (.ref b143), .val (.int 0)] [])
      refine oS (fun t k => XS.goto Xk0.here hx rfl (pc0 := 167) (pc' := 362) rfl (hb hby at_167) (by decide) (by decide) k) ?_
      show oG p e below _ Tk0 (mkF m 362 #[.val (.int p1), .val (.int p2), .val (.int p3), .val (.int p4), .val (.int p5), .val (.int 1), .val (.int c0), .val (.int c1), .val (.int c2), .val (.int c3), .val (.ref b143), .val (.int 0)] [])
      refine oS (fun t k => XS.aload Xk0.here hx rfl (hb hby at_362) rfl rfl k) ?_
      show oG p e below _ Tk0 (mkF m 364 #[.val (.int p1), .val (.int p2), .val (.int p3), .val (.int p4), .val (.int p5), .val (.int 1), .val (.int c0), .val (.int c1), .val (.int c2), .val (.int c3), .val (.ref b143), .val (.int 0)] [(.ref b143)])
      refine own_callS Xk0 hx hZ (y := (⟨"com/example/loqix/loqix/TopicName", "isValid", "(Ljava/lang/String;)Z"⟩ : MethodName)) (W := 0) (kc := 0) (ks := 0) hown (oW hw 22 rfl) (oW hw 23 rfl) (oW hw 24 rfl) (oW hw 25 rfl) (own_back (W := 0) (rm_tn l Z a0 hw [] b143 S0 kb0 cd0 N20 vs0 ([c0] : List Int32) CS FM TC.heap n0 ZC SE SV SCo SAr Scd (Nat.le_of_ble_eq_true rfl) hp (SC.ext OC.2) (SF.ext OC.2) hCS rFM (SA.ext OC.2) (SH.ext OC.2) (SL.ext OC.2)) hZ (oW hw 25 rfl) (oW hw 24 rfl) (by decide) (by decide)) (by decide) (g := (mkF m 364 #[.val (.int p1), .val (.int p2), .val (.int p3), .val (.int p4), .val (.int p5), .val (.int 1), .val (.int c0), .val (.int c1), .val (.int c2), .val (.int c3), .val (.ref b143), .val (.int 0)] [(.ref b143)])) rfl (by rw [hml]; rfl) (argsL := [(.ref b143)]) (rest := []) (lenOf pd_16 rfl) rfl (by show 2 * 0 + _ ≤ _; exact Nat.le_of_eq rfl) (hb hby at_364) rfl ek0 (by decide) (by decide) (fun vV TV LV XV hQV => ?_)
      obtain ⟨rfl, MV, eV⟩ := hQV
      rw [show own_val ([c0] : List Int32) = 0 from own_vno (c := c0) (by simp) hk0]
      show oG p e below _ TV (mkF m 367 #[.val (.int p1), .val (.int p2), .val (.int p3), .val (.int p4), .val (.int p5), .val (.int 1), .val (.int c0), .val (.int c1), .val (.int c2), .val (.int c3), .val (.ref b143), .val (.int 0)] [(.int 0)])
      refine oS (fun t k => XS.iload XV.here hx rfl (hb hby at_367) rfl  k) ?_
      show oG p e below _ TV (mkF m 369 #[.val (.int p1), .val (.int p2), .val (.int p3), .val (.int p4), .val (.int p5), .val (.int 1), .val (.int c0), .val (.int c1), .val (.int c2), .val (.int c3), .val (.ref b143), .val (.int 0)] [(.int 0), (.int 0)])
      refine oS (fun t k => XS.icmpNo XV.here hx rfl (hb hby at_369) rfl (teq (rfl : (0 : Int32) = 0)).2 k) ?_
      show oG p e below _ TV (mkF m 372 #[.val (.int p1), .val (.int p2), .val (.int p3), .val (.int p4), .val (.int p5), .val (.int 1), .val (.int c0), .val (.int c1), .val (.int c2), .val (.int c3), .val (.ref b143), .val (.int 0)] [])
      refine oS (fun t k => XS.iconst XV.here hx rfl (hb hby at_372) k) ?_
      refine oS (fun t k => XS.goto XV.here hx rfl (pc0 := 373) (pc' := 377) rfl (hb hby at_373) (by decide) (by decide) k) ?_
      show oG p e below _ TV (mkF m 377 #[.val (.int p1), .val (.int p2), .val (.int p3), .val (.int p4), .val (.int p5), .val (.int 1), .val (.int c0), .val (.int c1), .val (.int c2), .val (.int c3), .val (.ref b143), .val (.int 0)] [(.int 1)])
      refine own_retHN (t := .boolean) XV KC eV hx hlk hret (by simp) (hb hby at_377) ?_ (by decide) (by decide)
      exact ⟨rfl, Fr.app (Fr.app NC Mk0) MV⟩
  · rw [hq]
    show oG p e below _ s₁ (mkF m 23 #[.val (.int p1), .val (.int p2), .val (.int p3), .val (.int p4), .val (.int p5), .val (.int 2), .val (.int c0), .val (.int c1), .val (.int c2), .val (.int c3), .unset, .unset] [])
    refine oS (fun t k => XS.iload X0.here hx rfl (hb hby at_23) rfl  k) ?_
    refine oS (fun t k => XS.iconst X0.here hx rfl (hb hby at_25) k) ?_
    show oG p e below _ s₁ (mkF m 26 #[.val (.int p1), .val (.int p2), .val (.int p3), .val (.int p4), .val (.int p5), .val (.int 2), .val (.int c0), .val (.int c1), .val (.int c2), .val (.int c3), .unset, .unset] [(.int 5), (.int 2)])
    refine oS (fun t k => XS.icmpYes X0.here hx rfl (pc0 := 26) (pc' := 42) rfl (hb hby at_26) rfl (feq (by decide : ¬ (2 : Int32) = 5)).2 (by decide) (by decide) k) ?_
    show oG p e below _ s₁ (mkF m 42 #[.val (.int p1), .val (.int p2), .val (.int p3), .val (.int p4), .val (.int p5), .val (.int 2), .val (.int c0), .val (.int c1), .val (.int c2), .val (.int c3), .unset, .unset] [])
    refine oS (fun t k => XS.iload X0.here hx rfl (hb hby at_42) rfl  k) ?_
    refine oS (fun t k => XS.bipush X0.here hx rfl (hb hby at_44) k) ?_
    show oG p e below _ s₁ (mkF m 46 #[.val (.int p1), .val (.int p2), .val (.int p3), .val (.int p4), .val (.int p5), .val (.int 2), .val (.int c0), .val (.int c1), .val (.int c2), .val (.int c3), .unset, .unset] [(.int 6), (.int 2)])
    refine oS (fun t k => XS.icmpNo X0.here hx rfl (hb hby at_46) rfl (feq (by decide : ¬ (2 : Int32) = 6)).1 k) ?_
    show oG p e below _ s₁ (mkF m 49 #[.val (.int p1), .val (.int p2), .val (.int p3), .val (.int p4), .val (.int p5), .val (.int 2), .val (.int c0), .val (.int c1), .val (.int c2), .val (.int c3), .unset, .unset] [])
    refine oS (fun t k => XS.iload X0.here hx rfl (hb hby at_49) rfl  k) ?_
    refine oS (fun t k => XS.bipush X0.here hx rfl (hb hby at_51) k) ?_
    show oG p e below _ s₁ (mkF m 53 #[.val (.int p1), .val (.int p2), .val (.int p3), .val (.int p4), .val (.int p5), .val (.int 2), .val (.int c0), .val (.int c1), .val (.int c2), .val (.int c3), .unset, .unset] [(.int 7), (.int 2)])
    refine oS (fun t k => XS.icmpYes X0.here hx rfl (pc0 := 53) (pc' := 114) rfl (hb hby at_53) rfl (feq (by decide : ¬ (2 : Int32) = 7)).2 (by decide) (by decide) k) ?_
    show oG p e below _ s₁ (mkF m 114 #[.val (.int p1), .val (.int p2), .val (.int p3), .val (.int p4), .val (.int p5), .val (.int 2), .val (.int c0), .val (.int c1), .val (.int c2), .val (.int c3), .unset, .unset] [])
    refine oS (fun t k => XS.iload X0.here hx rfl (hb hby at_114) rfl  k) ?_
    show oG p e below _ s₁ (mkF m 116 #[.val (.int p1), .val (.int p2), .val (.int p3), .val (.int p4), .val (.int p5), .val (.int 2), .val (.int c0), .val (.int c1), .val (.int c2), .val (.int c3), .unset, .unset] [(.int 2)])
    refine oS (fun t k => XS.ifYes X0.here hx rfl (pc0 := 116) (pc' := 137) rfl (hb hby at_116) rfl ((if0 _ _).trans (feq (by decide : ¬ (2 : Int32) = 0)).2) (by decide) (by decide) k) ?_
    show oG p e below _ s₁ (mkF m 137 #[.val (.int p1), .val (.int p2), .val (.int p3), .val (.int p4), .val (.int p5), .val (.int 2), .val (.int c0), .val (.int c1), .val (.int c2), .val (.int c3), .unset, .unset] [])
    refine oS (fun t k => XS.iload X0.here hx rfl (hb hby at_137) rfl  k) ?_
    refine oS (fun t k => XS.iconst X0.here hx rfl (hb hby at_139) k) ?_
    show oG p e below _ s₁ (mkF m 140 #[.val (.int p1), .val (.int p2), .val (.int p3), .val (.int p4), .val (.int p5), .val (.int 2), .val (.int c0), .val (.int c1), .val (.int c2), .val (.int c3), .unset, .unset] [(.int 1), (.int 2)])
    refine oS (fun t k => XS.icmpYes X0.here hx rfl (pc0 := 140) (pc' := 170) rfl (hb hby at_140) rfl (feq (by decide : ¬ (2 : Int32) = 1)).2 (by decide) (by decide) k) ?_
    show oG p e below _ s₁ (mkF m 170 #[.val (.int p1), .val (.int p2), .val (.int p3), .val (.int p4), .val (.int p5), .val (.int 2), .val (.int c0), .val (.int c1), .val (.int c2), .val (.int c3), .unset, .unset] [])
    refine oS (fun t k => XS.iload X0.here hx rfl (hb hby at_170) rfl  k) ?_
    refine oS (fun t k => XS.iconst X0.here hx rfl (hb hby at_172) k) ?_
    show oG p e below _ s₁ (mkF m 173 #[.val (.int p1), .val (.int p2), .val (.int p3), .val (.int p4), .val (.int p5), .val (.int 2), .val (.int c0), .val (.int c1), .val (.int c2), .val (.int c3), .unset, .unset] [(.int 2), (.int 2)])
    refine oS (fun t k => XS.icmpNo X0.here hx rfl (hb hby at_173) rfl (teq (rfl : (2 : Int32) = 2)).2 k) ?_
    show oG p e below _ s₁ (mkF m 176 #[.val (.int p1), .val (.int p2), .val (.int p3), .val (.int p4), .val (.int p5), .val (.int 2), .val (.int c0), .val (.int c1), .val (.int c2), .val (.int c3), .unset, .unset] [])
    obtain ⟨T176, h176, X176, e176, E176, A176, D176, -, st176⟩ := newO X0 hx hZ hown (oW hw 0 rfl) (oW hw 1 rfl) (oW hw 2 rfl) e0 (g := (mkF m 176 #[.val (.int p1), .val (.int p2), .val (.int p3), .val (.int p4), .val (.int p5), .val (.int 2), .val (.int c0), .val (.int c1), .val (.int c2), .val (.int c3), .unset, .unset] [])) rfl (hb hby at_176) (by decide) (by decide)
    obtain ⟨b176, g176⟩ : ∃ z, z = h0.size := ⟨_, rfl⟩
    rw [← g176] at A176 D176 st176
    have F176_value : Fld Z h176 b176 "java/lang/String" "value" "[B" .null := D176 (Or.inr (oW hw 16 rfl)) (ty := (.array .byte)) (by decide)
    have F176_coder : Fld Z h176 b176 "java/lang/String" "coder" "B" (.int 0) := D176 (Or.inr (oW hw 17 rfl)) (ty := .byte) (by decide)
    refine oS st176 ?_
    show oG p e below _ T176 (mkF m 179 #[.val (.int p1), .val (.int p2), .val (.int p3), .val (.int p4), .val (.int p5), .val (.int 2), .val (.int c0), .val (.int c1), .val (.int c2), .val (.int c3), .unset, .unset] [(.ref b176)])
    have SB := Safe.ext E176 K0.2.2.1.1 (Safe.new (Nat.le_of_eq g176.symm))
    have Op := O0.ext E176
    have Zp : n0 ≤ h176.size := Nat.le_trans Z0 E176.1
    have gs : n0 ≤ b176 := Nat.le_trans Z0 (Nat.le_of_eq g176.symm)
    have K176 := K0.ext E176
    refine oS (fun t k => XS.dup X176.here hx rfl (hb hby at_179) rfl rfl k) ?_
    refine oS (fun t k => XS.iconst X176.here hx rfl (hb hby at_180) k) ?_
    show oG p e below _ T176 (mkF m 181 #[.val (.int p1), .val (.int p2), .val (.int p3), .val (.int p4), .val (.int p5), .val (.int 2), .val (.int c0), .val (.int c1), .val (.int c2), .val (.int c3), .unset, .unset] [(.int 2), (.ref b176), (.ref b176)])
    obtain ⟨T181, h181, k181, X181, e181, E181, A181, st181⟩ := newP X176 hx hZ (oW hw 3 rfl) e176 (g := (mkF m 181 #[.val (.int p1), .val (.int p2), .val (.int p3), .val (.int p4), .val (.int p5), .val (.int 2), .val (.int c0), .val (.int c1), .val (.int c2), .val (.int c3), .unset, .unset] [(.int 2), (.ref b176), (.ref b176)])) rfl (hb hby at_181) rfl (by decide) (cap := 2) (by decide) (by decide) (by decide) (by decide)
    obtain ⟨b181, g181⟩ : ∃ z, z = h176.size := ⟨_, rfl⟩
    rw [← g181] at A181 st181
    have V181 : Arv Z h181 b181 k181 .char (2 : Int32) [(.int 0), (.int 0)] (.int 0) := (Arv.new A181 (by decide)).pad (pad_rep [] (.int 0) 2)
    refine oS st181 ?_
    show oG p e below _ T181 (mkF m 183 #[.val (.int p1), .val (.int p2), .val (.int p3), .val (.int p4), .val (.int p5), .val (.int 2), .val (.int c0), .val (.int c1), .val (.int c2), .val (.int c3), .unset, .unset] [(.ref b181), (.ref b176), (.ref b176)])
    have SQ := Safe.ext E181 K176.2.2.1.1 (Safe.new (Nat.le_of_eq g181.symm))
    have SB := Safe.ext E181 K176.2.2.1.1 SB
    have Oq := Op.ext E181
    have Zq : n0 ≤ h181.size := Nat.le_trans Zp E181.1
    have gq : n0 ≤ b181 := Nat.le_trans Zp (Nat.le_of_eq g181.symm)
    have ne : b176 ≠ b181 := Nat.ne_of_lt (Nat.lt_of_lt_of_le A176.lt (Nat.le_of_eq g181.symm))
    have EX := A176.ext E181
    have FV := F176_value.ext E181
    have FC := F176_coder.ext E181
    have K181 := K176.ext E181
    refine oS (fun t k => XS.dup X181.here hx rfl (hb hby at_183) rfl rfl k) ?_
    refine oS (fun t k => XS.iconst X181.here hx rfl (hb hby at_184) k) ?_
    refine oS (fun t k => XS.iload X181.here hx rfl (hb hby at_185) rfl  k) ?_
    show oG p e below _ T181 (mkF m 187 #[.val (.int p1), .val (.int p2), .val (.int p3), .val (.int p4), .val (.int p5), .val (.int 2), .val (.int c0), .val (.int c1), .val (.int c2), .val (.int c3), .unset, .unset] [(.int c0), (.int 0), (.ref b181), (.ref b181), (.ref b176), (.ref b176)])
    obtain ⟨cl187, Ar187, q187, S187, M187, H187, G187⟩ := V181
    have hin187 : ¬ ((0 : Int32) < 0 ∨ cl187.slots.size ≤ ((0 : Int32)).toNatClampNeg) := inb_of S187 ⟨by decide, by decide⟩
    obtain ⟨T187, h187, X187, e187, W187, st187⟩ := stC X181 hx hZ e181 Ar187 (j := (0 : Int32)) hin187 (g := (mkF m 187 #[.val (.int p1), .val (.int p2), .val (.int p3), .val (.int p4), .val (.int p5), .val (.int 2), .val (.int c0), .val (.int c1), .val (.int c2), .val (.int c3), .unset, .unset] [(.int c0), (.int 0), (.ref b181), (.ref b181), (.ref b176), (.ref b176)])) rfl rfl (hb hby at_187)
    refine oS st187 ?_
    have V187 := Arv.set Ar187 q187 S187 M187 H187 G187 (fits_nar_char _) W187 0 rfl (Nat.le_of_ble_eq_true rfl)
    have N187 := Fr.snoc X187 N0 gq
    show oG p e below _ T187 (mkF m 188 #[.val (.int p1), .val (.int p2), .val (.int p3), .val (.int p4), .val (.int p5), .val (.int 2), .val (.int c0), .val (.int c1), .val (.int c2), .val (.int c3), .unset, .unset] [(.ref b181), (.ref b176), (.ref b176)])
    rw [own_narC' hr0] at V187
    have K187 := K181.wr W187 SQ
    have SB := Safe.wr W187 SQ K181.2.2.1.1 SB
    have SQ := Safe.wr W187 SQ K181.2.2.1.1 SQ
    have Oq := Oq.wr W187 gq
    have Zq : n0 ≤ h187.size := Nat.le_trans Zq (Keep.of_wr W187).1
    have EX := EX.wr W187
    have FV := FV.other W187 (Or.inl ne)
    have FC := FC.other W187 (Or.inl ne)
    refine oS (fun t k => XS.dup X187.here hx rfl (hb hby at_188) rfl rfl k) ?_
    refine oS (fun t k => XS.iconst X187.here hx rfl (hb hby at_189) k) ?_
    refine oS (fun t k => XS.iload X187.here hx rfl (hb hby at_190) rfl  k) ?_
    show oG p e below _ T187 (mkF m 192 #[.val (.int p1), .val (.int p2), .val (.int p3), .val (.int p4), .val (.int p5), .val (.int 2), .val (.int c0), .val (.int c1), .val (.int c2), .val (.int c3), .unset, .unset] [(.int c1), (.int 1), (.ref b181), (.ref b181), (.ref b176), (.ref b176)])
    obtain ⟨cl192, Ar192, q192, S192, M192, H192, G192⟩ := V187
    have hin192 : ¬ ((1 : Int32) < 0 ∨ cl192.slots.size ≤ ((1 : Int32)).toNatClampNeg) := inb_of S192 ⟨by decide, by decide⟩
    obtain ⟨T192, h192, X192, e192, W192, st192⟩ := stC X187 hx hZ e187 Ar192 (j := (1 : Int32)) hin192 (g := (mkF m 192 #[.val (.int p1), .val (.int p2), .val (.int p3), .val (.int p4), .val (.int p5), .val (.int 2), .val (.int c0), .val (.int c1), .val (.int c2), .val (.int c3), .unset, .unset] [(.int c1), (.int 1), (.ref b181), (.ref b181), (.ref b176), (.ref b176)])) rfl rfl (hb hby at_192)
    refine oS st192 ?_
    have V192 := Arv.set Ar192 q192 S192 M192 H192 G192 (fits_nar_char _) W192 1 rfl (Nat.le_of_ble_eq_true rfl)
    have N192 := Fr.snoc X192 N187 gq
    show oG p e below _ T192 (mkF m 193 #[.val (.int p1), .val (.int p2), .val (.int p3), .val (.int p4), .val (.int p5), .val (.int 2), .val (.int c0), .val (.int c1), .val (.int c2), .val (.int c3), .unset, .unset] [(.ref b181), (.ref b176), (.ref b176)])
    rw [own_narC' hr1] at V192
    have K192 := K187.wr W192 SQ
    have SB := Safe.wr W192 SQ K187.2.2.1.1 SB
    have SQ := Safe.wr W192 SQ K187.2.2.1.1 SQ
    have Oq := Oq.wr W192 gq
    have Zq : n0 ≤ h192.size := Nat.le_trans Zq (Keep.of_wr W192).1
    have EX := EX.wr W192
    have FV := FV.other W192 (Or.inl ne)
    have FC := FC.other W192 (Or.inl ne)
    have hp : ∀ c ∈ ([c0, c1] : List Int32), ¬ c < 0 ∧ ¬ (65535 : Int32) < c := by
      intro c hc
      simp only [List.mem_cons, List.not_mem_nil, or_false] at hc
      rcases hc with rfl | rfl
      · exact hr0
      · exact hr1
    have pays : own_Bk l room_1 p e below (s.setVm s.vm) #[(.int p1), (.int p2), (.int p3), (.int p4), (.int p5)] (⟨"java/lang/String", "<init>", "([C)V"⟩ : MethodName) 3 1 #[(.ref b176), (.ref b181)] h192 2 6 (own_QS Z b176 ([c0, c1] : List Int32) h192 n0) := by
      by_cases hlat : ∀ c ∈ ([c0, c1] : List Int32), ¬ (255 : Int32) < c
      · refine own_Bk.more (kc := 1) (ks := 2) (own_Bk.mono (Q := StrChars.Road.QV Z b176 (2 : Int32) (([c0, c1] : List Int32).map (fun c : Int32 => c.toInt8.toInt32)) h192 n0) (StrChars.Road.backV (W := 1) hZ hws (kI := 4) (oW hw 1 rfl) (cs := ([c0, c1] : List Int32)) (bs := ([c0, c1] : List Int32).map (fun c : Int32 => c.toInt8.toInt32)) (n := 2) gs Zq EX FV FC V192 (SC.ext Oq.2) hCS rfl rfl (by decide) (by decide) (fun c hc => ⟨(hp c hc).1, hlat c hc⟩) rfl (by decide) (by decide)) ?_) (by decide) (by decide)
        rintro v h' L ⟨q1, q2, q3, q4, q5, t, kb, -, -, -, q6, q7⟩
        exact ⟨q1, q2, q3, t, kb, 0, (2 : Int32), _, q4, q6, q5, q7, StrChars.Road.codOf (n := 2) rfl hlat⟩
      · have hbig : 255 < c0 ∨ 255 < c1 := by
          apply Classical.byContradiction
          intro q
          try simp only [not_or] at q
          apply hlat
          intro c hc
          simp only [List.mem_cons, List.not_mem_nil, or_false] at hc
          rcases hc with rfl | rfl
          · exact q.1
          · exact q.2
        exact own_back (W := 1) (rm_s2 l Z a0 hw [] b176 b181 k181 _ _ _ CS c0 c1 h192 n0 Zq EX FV FC gs V192 hbig hp (SA.ext Oq.2) (SH.ext Oq.2) (SL.ext Oq.2) (SC.ext Oq.2) hCS) hZ (oW hw 6 rfl) (oW hw 2 rfl) (by decide) (by decide)
    refine own_callI X192 hx hZ (y := (⟨"java/lang/String", "<init>", "([C)V"⟩ : MethodName)) (W := 1) (Q := (own_QS Z b176 ([c0, c1] : List Int32) h192 n0)) (kc := 2) (ks := 6) rfl hown (oW hw 4 rfl) (oW hw 5 rfl) (oW hw 6 rfl) pays (by decide) (g := (mkF m 193 #[.val (.int p1), .val (.int p2), .val (.int p3), .val (.int p4), .val (.int p5), .val (.int 2), .val (.int c0), .val (.int c1), .val (.int c2), .val (.int c3), .unset, .unset] [(.ref b181), (.ref b176), (.ref b176)])) rfl (by rw [hml]; rfl) (a := b176) (argsL := [(.ref b181)]) (rest := [(.ref b176)]) (lenOf pd_15 rfl) rfl (by show 2 * 0 + _ ≤ _; exact Nat.le_of_eq rfl) (hb hby at_193) rfl e192 (by decide) (by decide) (fun vC TC LC XC hQC => ?_)
    obtain ⟨rfl, MC, KP, S0, kb0, cd0, N20, vs0, SE, SV, SCo, SAr, Scd⟩ := hQC
    have KC := K192.keep KP (allS SB all0)
    have NC := Fr.app N192 MC
    have OC := Oq.keep KP (allS gs all0)
    have ZC : n0 ≤ TC.heap.size := Nat.le_trans Zq KP.1
    show oG p e below _ TC (mkF m 196 #[.val (.int p1), .val (.int p2), .val (.int p3), .val (.int p4), .val (.int p5), .val (.int 2), .val (.int c0), .val (.int c1), .val (.int c2), .val (.int c3), .unset, .unset] [(.ref b176)])
    refine oS (fun t k => XS.astore XC.here hx rfl (hb hby at_196) rfl rfl (l' := #[.val (.int p1), .val (.int p2), .val (.int p3), .val (.int p4), .val (.int p5), .val (.int 2), .val (.int c0), .val (.int c1), .val (.int c2), .val (.int c3), .val (.ref b176), .unset]) rfl k) ?_
    show oG p e below _ TC (mkF m 198 #[.val (.int p1), .val (.int p2), .val (.int p3), .val (.int p4), .val (.int p5), .val (.int 2), .val (.int c0), .val (.int c1), .val (.int c2), .val (.int c3), .val (.ref b176), .unset] [])
    refine oS (fun t k => XS.iload XC.here hx rfl (hb hby at_198) rfl  k) ?_
    show oG p e below _ TC (mkF m 200 #[.val (.int p1), .val (.int p2), .val (.int p3), .val (.int p4), .val (.int p5), .val (.int 2), .val (.int c0), .val (.int c1), .val (.int c2), .val (.int c3), .val (.ref b176), .unset] [(.int c0)])
    refine own_callS XC hx hZ (y := (⟨"com/example/loqix/loqix/TopicNameIsValidPinLaw", "ok", "(C)Z"⟩ : MethodName)) (W := 0) (kc := 0) (ks := 0) hown (oW hw 42 rfl) (oW hw 43 rfl) (oW hw 44 rfl) (oW hw 45 rfl) (own_back (W := 0) (rm_ok l Z a0 hw [] c0 TC.heap n0 ZC) hZ (oW hw 45 rfl) (oW hw 44 rfl) (by decide) (by decide)) (by decide) (g := (mkF m 200 #[.val (.int p1), .val (.int p2), .val (.int p3), .val (.int p4), .val (.int p5), .val (.int 2), .val (.int c0), .val (.int c1), .val (.int c2), .val (.int c3), .val (.ref b176), .unset] [(.int c0)])) rfl (by rw [hml]; rfl) (argsL := [(.int c0)]) (rest := []) (lenOf pd_17 rfl) rfl (by show 2 * 0 + _ ≤ _; exact Nat.le_of_eq rfl) (hb hby at_200) rfl rfl (by decide) (by decide) (fun vk0 Tk0 Lk0 Xk0 hQk0 => ?_)
    obtain ⟨rfl, Mk0, ek0⟩ := hQk0
    by_cases hk0 : okc c0
    · rw [own_okv, if_pos hk0]
      show oG p e below _ Tk0 (mkF m 203 #[.val (.int p1), .val (.int p2), .val (.int p3), .val (.int p4), .val (.int p5), .val (.int 2), .val (.int c0), .val (.int c1), .val (.int c2), .val (.int c3), .val (.ref b176), .unset] [(.int 1)])
      refine oS (fun t k => XS.ifNo Xk0.here hx rfl (hb hby at_203) rfl ((if0 _ _).trans (feq (by decide : ¬ (1 : Int32) = 0)).1) k) ?_
      show oG p e below _ Tk0 (mkF m 206 #[.val (.int p1), .val (.int p2), .val (.int p3), .val (.int p4), .val (.int p5), .val (.int 2), .val (.int c0), .val (.int c1), .val (.int c2), .val (.int c3), .val (.ref b176), .unset] [])
      refine oS (fun t k => XS.iload Xk0.here hx rfl (hb hby at_206) rfl  k) ?_
      show oG p e below _ Tk0 (mkF m 208 #[.val (.int p1), .val (.int p2), .val (.int p3), .val (.int p4), .val (.int p5), .val (.int 2), .val (.int c0), .val (.int c1), .val (.int c2), .val (.int c3), .val (.ref b176), .unset] [(.int c1)])
      refine own_callS Xk0 hx hZ (y := (⟨"com/example/loqix/loqix/TopicNameIsValidPinLaw", "ok", "(C)Z"⟩ : MethodName)) (W := 0) (kc := 0) (ks := 0) hown (oW hw 42 rfl) (oW hw 43 rfl) (oW hw 44 rfl) (oW hw 45 rfl) (own_back (W := 0) (rm_ok l Z a0 hw [] c1 TC.heap n0 ZC) hZ (oW hw 45 rfl) (oW hw 44 rfl) (by decide) (by decide)) (by decide) (g := (mkF m 208 #[.val (.int p1), .val (.int p2), .val (.int p3), .val (.int p4), .val (.int p5), .val (.int 2), .val (.int c0), .val (.int c1), .val (.int c2), .val (.int c3), .val (.ref b176), .unset] [(.int c1)])) rfl (by rw [hml]; rfl) (argsL := [(.int c1)]) (rest := []) (lenOf pd_17 rfl) rfl (by show 2 * 0 + _ ≤ _; exact Nat.le_of_eq rfl) (hb hby at_208) rfl ek0 (by decide) (by decide) (fun vk1 Tk1 Lk1 Xk1 hQk1 => ?_)
      obtain ⟨rfl, Mk1, ek1⟩ := hQk1
      by_cases hk1 : okc c1
      · rw [own_okv, if_pos hk1]
        show oG p e below _ Tk1 (mkF m 211 #[.val (.int p1), .val (.int p2), .val (.int p3), .val (.int p4), .val (.int p5), .val (.int 2), .val (.int c0), .val (.int c1), .val (.int c2), .val (.int c3), .val (.ref b176), .unset] [(.int 1)])
        refine oS (fun t k => XS.ifNo Xk1.here hx rfl (hb hby at_211) rfl ((if0 _ _).trans (feq (by decide : ¬ (1 : Int32) = 0)).1) k) ?_
        show oG p e below _ Tk1 (mkF m 214 #[.val (.int p1), .val (.int p2), .val (.int p3), .val (.int p4), .val (.int p5), .val (.int 2), .val (.int c0), .val (.int c1), .val (.int c2), .val (.int c3), .val (.ref b176), .unset] [])
        refine oS (fun t k => XS.iconst Xk1.here hx rfl (hb hby at_214) k) ?_
        refine oS (fun t k => XS.goto Xk1.here hx rfl (pc0 := 215) (pc' := 219) rfl (hb hby at_215) (by decide) (by decide) k) ?_
        show oG p e below _ Tk1 (mkF m 219 #[.val (.int p1), .val (.int p2), .val (.int p3), .val (.int p4), .val (.int p5), .val (.int 2), .val (.int c0), .val (.int c1), .val (.int c2), .val (.int c3), .val (.ref b176), .unset] [(.int 1)])
        refine oS (fun t k => XS.istore Xk1.here hx rfl (hb hby at_219) rfl (l' := #[.val (.int p1), .val (.int p2), .val (.int p3), .val (.int p4), .val (.int p5), .val (.int 2), .val (.int c0), .val (.int c1), .val (.int c2), .val (.int c3), .val (.ref b176), .val (.int 1)]) rfl k) ?_
        show oG p e below _ Tk1 (mkF m 221 #[.val (.int p1), .val (.int p2), .val (.int p3), .val (.int p4), .val (.int p5), .val (.int 2), .val (.int c0), .val (.int c1), .val (.int c2), .val (.int c3), .val (.ref b176), .val (.int 1)] [])
        refine oS (fun t k => XS.goto Xk1.here hx rfl (pc0 := 221) (pc' := 362) rfl (hb hby at_221) (by decide) (by decide) k) ?_
        show oG p e below _ Tk1 (mkF m 362 #[.val (.int p1), .val (.int p2), .val (.int p3), .val (.int p4), .val (.int p5), .val (.int 2), .val (.int c0), .val (.int c1), .val (.int c2), .val (.int c3), .val (.ref b176), .val (.int 1)] [])
        refine oS (fun t k => XS.aload Xk1.here hx rfl (hb hby at_362) rfl rfl k) ?_
        show oG p e below _ Tk1 (mkF m 364 #[.val (.int p1), .val (.int p2), .val (.int p3), .val (.int p4), .val (.int p5), .val (.int 2), .val (.int c0), .val (.int c1), .val (.int c2), .val (.int c3), .val (.ref b176), .val (.int 1)] [(.ref b176)])
        refine own_callS Xk1 hx hZ (y := (⟨"com/example/loqix/loqix/TopicName", "isValid", "(Ljava/lang/String;)Z"⟩ : MethodName)) (W := 0) (kc := 0) (ks := 0) hown (oW hw 22 rfl) (oW hw 23 rfl) (oW hw 24 rfl) (oW hw 25 rfl) (own_back (W := 0) (rm_tn l Z a0 hw [] b176 S0 kb0 cd0 N20 vs0 ([c0, c1] : List Int32) CS FM TC.heap n0 ZC SE SV SCo SAr Scd (Nat.le_of_ble_eq_true rfl) hp (SC.ext OC.2) (SF.ext OC.2) hCS rFM (SA.ext OC.2) (SH.ext OC.2) (SL.ext OC.2)) hZ (oW hw 25 rfl) (oW hw 24 rfl) (by decide) (by decide)) (by decide) (g := (mkF m 364 #[.val (.int p1), .val (.int p2), .val (.int p3), .val (.int p4), .val (.int p5), .val (.int 2), .val (.int c0), .val (.int c1), .val (.int c2), .val (.int c3), .val (.ref b176), .val (.int 1)] [(.ref b176)])) rfl (by rw [hml]; rfl) (argsL := [(.ref b176)]) (rest := []) (lenOf pd_16 rfl) rfl (by show 2 * 0 + _ ≤ _; exact Nat.le_of_eq rfl) (hb hby at_364) rfl ek1 (by decide) (by decide) (fun vV TV LV XV hQV => ?_)
        obtain ⟨rfl, MV, eV⟩ := hQV
        rw [show own_val ([c0, c1] : List Int32) = 1 from own_vyes (Nat.le_of_ble_eq_true rfl) (Nat.le_of_ble_eq_true rfl) (by simp [hk0, hk1])]
        show oG p e below _ TV (mkF m 367 #[.val (.int p1), .val (.int p2), .val (.int p3), .val (.int p4), .val (.int p5), .val (.int 2), .val (.int c0), .val (.int c1), .val (.int c2), .val (.int c3), .val (.ref b176), .val (.int 1)] [(.int 1)])
        refine oS (fun t k => XS.iload XV.here hx rfl (hb hby at_367) rfl  k) ?_
        show oG p e below _ TV (mkF m 369 #[.val (.int p1), .val (.int p2), .val (.int p3), .val (.int p4), .val (.int p5), .val (.int 2), .val (.int c0), .val (.int c1), .val (.int c2), .val (.int c3), .val (.ref b176), .val (.int 1)] [(.int 1), (.int 1)])
        refine oS (fun t k => XS.icmpNo XV.here hx rfl (hb hby at_369) rfl (teq (rfl : (1 : Int32) = 1)).2 k) ?_
        show oG p e below _ TV (mkF m 372 #[.val (.int p1), .val (.int p2), .val (.int p3), .val (.int p4), .val (.int p5), .val (.int 2), .val (.int c0), .val (.int c1), .val (.int c2), .val (.int c3), .val (.ref b176), .val (.int 1)] [])
        refine oS (fun t k => XS.iconst XV.here hx rfl (hb hby at_372) k) ?_
        refine oS (fun t k => XS.goto XV.here hx rfl (pc0 := 373) (pc' := 377) rfl (hb hby at_373) (by decide) (by decide) k) ?_
        show oG p e below _ TV (mkF m 377 #[.val (.int p1), .val (.int p2), .val (.int p3), .val (.int p4), .val (.int p5), .val (.int 2), .val (.int c0), .val (.int c1), .val (.int c2), .val (.int c3), .val (.ref b176), .val (.int 1)] [(.int 1)])
        refine own_retHN (t := .boolean) XV KC eV hx hlk hret (by simp) (hb hby at_377) ?_ (by decide) (by decide)
        exact ⟨rfl, Fr.app (Fr.app (Fr.app NC Mk0) Mk1) MV⟩
      · rw [own_okv, if_neg hk1]
        show oG p e below _ Tk1 (mkF m 211 #[.val (.int p1), .val (.int p2), .val (.int p3), .val (.int p4), .val (.int p5), .val (.int 2), .val (.int c0), .val (.int c1), .val (.int c2), .val (.int c3), .val (.ref b176), .unset] [(.int 0)])
        refine oS (fun t k => XS.ifYes Xk1.here hx rfl (pc0 := 211) (pc' := 218) rfl (hb hby at_211) rfl ((if0 _ _).trans (teq (rfl : (0 : Int32) = 0)).1) (by decide) (by decide) k) ?_
        show oG p e below _ Tk1 (mkF m 218 #[.val (.int p1), .val (.int p2), .val (.int p3), .val (.int p4), .val (.int p5), .val (.int 2), .val (.int c0), .val (.int c1), .val (.int c2), .val (.int c3), .val (.ref b176), .unset] [])
        refine oS (fun t k => XS.iconst Xk1.here hx rfl (hb hby at_218) k) ?_
        refine oS (fun t k => XS.istore Xk1.here hx rfl (hb hby at_219) rfl (l' := #[.val (.int p1), .val (.int p2), .val (.int p3), .val (.int p4), .val (.int p5), .val (.int 2), .val (.int c0), .val (.int c1), .val (.int c2), .val (.int c3), .val (.ref b176), .val (.int 0)]) rfl k) ?_
        show oG p e below _ Tk1 (mkF m 221 #[.val (.int p1), .val (.int p2), .val (.int p3), .val (.int p4), .val (.int p5), .val (.int 2), .val (.int c0), .val (.int c1), .val (.int c2), .val (.int c3), .val (.ref b176), .val (.int 0)] [])
        refine oS (fun t k => XS.goto Xk1.here hx rfl (pc0 := 221) (pc' := 362) rfl (hb hby at_221) (by decide) (by decide) k) ?_
        show oG p e below _ Tk1 (mkF m 362 #[.val (.int p1), .val (.int p2), .val (.int p3), .val (.int p4), .val (.int p5), .val (.int 2), .val (.int c0), .val (.int c1), .val (.int c2), .val (.int c3), .val (.ref b176), .val (.int 0)] [])
        refine oS (fun t k => XS.aload Xk1.here hx rfl (hb hby at_362) rfl rfl k) ?_
        show oG p e below _ Tk1 (mkF m 364 #[.val (.int p1), .val (.int p2), .val (.int p3), .val (.int p4), .val (.int p5), .val (.int 2), .val (.int c0), .val (.int c1), .val (.int c2), .val (.int c3), .val (.ref b176), .val (.int 0)] [(.ref b176)])
        refine own_callS Xk1 hx hZ (y := (⟨"com/example/loqix/loqix/TopicName", "isValid", "(Ljava/lang/String;)Z"⟩ : MethodName)) (W := 0) (kc := 0) (ks := 0) hown (oW hw 22 rfl) (oW hw 23 rfl) (oW hw 24 rfl) (oW hw 25 rfl) (own_back (W := 0) (rm_tn l Z a0 hw [] b176 S0 kb0 cd0 N20 vs0 ([c0, c1] : List Int32) CS FM TC.heap n0 ZC SE SV SCo SAr Scd (Nat.le_of_ble_eq_true rfl) hp (SC.ext OC.2) (SF.ext OC.2) hCS rFM (SA.ext OC.2) (SH.ext OC.2) (SL.ext OC.2)) hZ (oW hw 25 rfl) (oW hw 24 rfl) (by decide) (by decide)) (by decide) (g := (mkF m 364 #[.val (.int p1), .val (.int p2), .val (.int p3), .val (.int p4), .val (.int p5), .val (.int 2), .val (.int c0), .val (.int c1), .val (.int c2), .val (.int c3), .val (.ref b176), .val (.int 0)] [(.ref b176)])) rfl (by rw [hml]; rfl) (argsL := [(.ref b176)]) (rest := []) (lenOf pd_16 rfl) rfl (by show 2 * 0 + _ ≤ _; exact Nat.le_of_eq rfl) (hb hby at_364) rfl ek1 (by decide) (by decide) (fun vV TV LV XV hQV => ?_)
        obtain ⟨rfl, MV, eV⟩ := hQV
        rw [show own_val ([c0, c1] : List Int32) = 0 from own_vno (c := c1) (by simp) hk1]
        show oG p e below _ TV (mkF m 367 #[.val (.int p1), .val (.int p2), .val (.int p3), .val (.int p4), .val (.int p5), .val (.int 2), .val (.int c0), .val (.int c1), .val (.int c2), .val (.int c3), .val (.ref b176), .val (.int 0)] [(.int 0)])
        refine oS (fun t k => XS.iload XV.here hx rfl (hb hby at_367) rfl  k) ?_
        show oG p e below _ TV (mkF m 369 #[.val (.int p1), .val (.int p2), .val (.int p3), .val (.int p4), .val (.int p5), .val (.int 2), .val (.int c0), .val (.int c1), .val (.int c2), .val (.int c3), .val (.ref b176), .val (.int 0)] [(.int 0), (.int 0)])
        refine oS (fun t k => XS.icmpNo XV.here hx rfl (hb hby at_369) rfl (teq (rfl : (0 : Int32) = 0)).2 k) ?_
        show oG p e below _ TV (mkF m 372 #[.val (.int p1), .val (.int p2), .val (.int p3), .val (.int p4), .val (.int p5), .val (.int 2), .val (.int c0), .val (.int c1), .val (.int c2), .val (.int c3), .val (.ref b176), .val (.int 0)] [])
        refine oS (fun t k => XS.iconst XV.here hx rfl (hb hby at_372) k) ?_
        refine oS (fun t k => XS.goto XV.here hx rfl (pc0 := 373) (pc' := 377) rfl (hb hby at_373) (by decide) (by decide) k) ?_
        show oG p e below _ TV (mkF m 377 #[.val (.int p1), .val (.int p2), .val (.int p3), .val (.int p4), .val (.int p5), .val (.int 2), .val (.int c0), .val (.int c1), .val (.int c2), .val (.int c3), .val (.ref b176), .val (.int 0)] [(.int 1)])
        refine own_retHN (t := .boolean) XV KC eV hx hlk hret (by simp) (hb hby at_377) ?_ (by decide) (by decide)
        exact ⟨rfl, Fr.app (Fr.app (Fr.app NC Mk0) Mk1) MV⟩
    · rw [own_okv, if_neg hk0]
      show oG p e below _ Tk0 (mkF m 203 #[.val (.int p1), .val (.int p2), .val (.int p3), .val (.int p4), .val (.int p5), .val (.int 2), .val (.int c0), .val (.int c1), .val (.int c2), .val (.int c3), .val (.ref b176), .unset] [(.int 0)])
      refine oS (fun t k => XS.ifYes Xk0.here hx rfl (pc0 := 203) (pc' := 218) rfl (hb hby at_203) rfl ((if0 _ _).trans (teq (rfl : (0 : Int32) = 0)).1) (by decide) (by decide) k) ?_
      show oG p e below _ Tk0 (mkF m 218 #[.val (.int p1), .val (.int p2), .val (.int p3), .val (.int p4), .val (.int p5), .val (.int 2), .val (.int c0), .val (.int c1), .val (.int c2), .val (.int c3), .val (.ref b176), .unset] [])
      refine oS (fun t k => XS.iconst Xk0.here hx rfl (hb hby at_218) k) ?_
      refine oS (fun t k => XS.istore Xk0.here hx rfl (hb hby at_219) rfl (l' := #[.val (.int p1), .val (.int p2), .val (.int p3), .val (.int p4), .val (.int p5), .val (.int 2), .val (.int c0), .val (.int c1), .val (.int c2), .val (.int c3), .val (.ref b176), .val (.int 0)]) rfl k) ?_
      show oG p e below _ Tk0 (mkF m 221 #[.val (.int p1), .val (.int p2), .val (.int p3), .val (.int p4), .val (.int p5), .val (.int 2), .val (.int c0), .val (.int c1), .val (.int c2), .val (.int c3), .val (.ref b176), .val (.int 0)] [])
      refine oS (fun t k => XS.goto Xk0.here hx rfl (pc0 := 221) (pc' := 362) rfl (hb hby at_221) (by decide) (by decide) k) ?_
      show oG p e below _ Tk0 (mkF m 362 #[.val (.int p1), .val (.int p2), .val (.int p3), .val (.int p4), .val (.int p5), .val (.int 2), .val (.int c0), .val (.int c1), .val (.int c2), .val (.int c3), .val (.ref b176), .val (.int 0)] [])
      refine oS (fun t k => XS.aload Xk0.here hx rfl (hb hby at_362) rfl rfl k) ?_
      show oG p e below _ Tk0 (mkF m 364 #[.val (.int p1), .val (.int p2), .val (.int p3), .val (.int p4), .val (.int p5), .val (.int 2), .val (.int c0), .val (.int c1), .val (.int c2), .val (.int c3), .val (.ref b176), .val (.int 0)] [(.ref b176)])
      refine own_callS Xk0 hx hZ (y := (⟨"com/example/loqix/loqix/TopicName", "isValid", "(Ljava/lang/String;)Z"⟩ : MethodName)) (W := 0) (kc := 0) (ks := 0) hown (oW hw 22 rfl) (oW hw 23 rfl) (oW hw 24 rfl) (oW hw 25 rfl) (own_back (W := 0) (rm_tn l Z a0 hw [] b176 S0 kb0 cd0 N20 vs0 ([c0, c1] : List Int32) CS FM TC.heap n0 ZC SE SV SCo SAr Scd (Nat.le_of_ble_eq_true rfl) hp (SC.ext OC.2) (SF.ext OC.2) hCS rFM (SA.ext OC.2) (SH.ext OC.2) (SL.ext OC.2)) hZ (oW hw 25 rfl) (oW hw 24 rfl) (by decide) (by decide)) (by decide) (g := (mkF m 364 #[.val (.int p1), .val (.int p2), .val (.int p3), .val (.int p4), .val (.int p5), .val (.int 2), .val (.int c0), .val (.int c1), .val (.int c2), .val (.int c3), .val (.ref b176), .val (.int 0)] [(.ref b176)])) rfl (by rw [hml]; rfl) (argsL := [(.ref b176)]) (rest := []) (lenOf pd_16 rfl) rfl (by show 2 * 0 + _ ≤ _; exact Nat.le_of_eq rfl) (hb hby at_364) rfl ek0 (by decide) (by decide) (fun vV TV LV XV hQV => ?_)
      obtain ⟨rfl, MV, eV⟩ := hQV
      rw [show own_val ([c0, c1] : List Int32) = 0 from own_vno (c := c0) (by simp) hk0]
      show oG p e below _ TV (mkF m 367 #[.val (.int p1), .val (.int p2), .val (.int p3), .val (.int p4), .val (.int p5), .val (.int 2), .val (.int c0), .val (.int c1), .val (.int c2), .val (.int c3), .val (.ref b176), .val (.int 0)] [(.int 0)])
      refine oS (fun t k => XS.iload XV.here hx rfl (hb hby at_367) rfl  k) ?_
      show oG p e below _ TV (mkF m 369 #[.val (.int p1), .val (.int p2), .val (.int p3), .val (.int p4), .val (.int p5), .val (.int 2), .val (.int c0), .val (.int c1), .val (.int c2), .val (.int c3), .val (.ref b176), .val (.int 0)] [(.int 0), (.int 0)])
      refine oS (fun t k => XS.icmpNo XV.here hx rfl (hb hby at_369) rfl (teq (rfl : (0 : Int32) = 0)).2 k) ?_
      show oG p e below _ TV (mkF m 372 #[.val (.int p1), .val (.int p2), .val (.int p3), .val (.int p4), .val (.int p5), .val (.int 2), .val (.int c0), .val (.int c1), .val (.int c2), .val (.int c3), .val (.ref b176), .val (.int 0)] [])
      refine oS (fun t k => XS.iconst XV.here hx rfl (hb hby at_372) k) ?_
      refine oS (fun t k => XS.goto XV.here hx rfl (pc0 := 373) (pc' := 377) rfl (hb hby at_373) (by decide) (by decide) k) ?_
      show oG p e below _ TV (mkF m 377 #[.val (.int p1), .val (.int p2), .val (.int p3), .val (.int p4), .val (.int p5), .val (.int 2), .val (.int c0), .val (.int c1), .val (.int c2), .val (.int c3), .val (.ref b176), .val (.int 0)] [(.int 1)])
      refine own_retHN (t := .boolean) XV KC eV hx hlk hret (by simp) (hb hby at_377) ?_ (by decide) (by decide)
      exact ⟨rfl, Fr.app (Fr.app NC Mk0) MV⟩
  · rw [hq]
    show oG p e below _ s₁ (mkF m 23 #[.val (.int p1), .val (.int p2), .val (.int p3), .val (.int p4), .val (.int p5), .val (.int 3), .val (.int c0), .val (.int c1), .val (.int c2), .val (.int c3), .unset, .unset] [])
    refine oS (fun t k => XS.iload X0.here hx rfl (hb hby at_23) rfl  k) ?_
    refine oS (fun t k => XS.iconst X0.here hx rfl (hb hby at_25) k) ?_
    show oG p e below _ s₁ (mkF m 26 #[.val (.int p1), .val (.int p2), .val (.int p3), .val (.int p4), .val (.int p5), .val (.int 3), .val (.int c0), .val (.int c1), .val (.int c2), .val (.int c3), .unset, .unset] [(.int 5), (.int 3)])
    refine oS (fun t k => XS.icmpYes X0.here hx rfl (pc0 := 26) (pc' := 42) rfl (hb hby at_26) rfl (feq (by decide : ¬ (3 : Int32) = 5)).2 (by decide) (by decide) k) ?_
    show oG p e below _ s₁ (mkF m 42 #[.val (.int p1), .val (.int p2), .val (.int p3), .val (.int p4), .val (.int p5), .val (.int 3), .val (.int c0), .val (.int c1), .val (.int c2), .val (.int c3), .unset, .unset] [])
    refine oS (fun t k => XS.iload X0.here hx rfl (hb hby at_42) rfl  k) ?_
    refine oS (fun t k => XS.bipush X0.here hx rfl (hb hby at_44) k) ?_
    show oG p e below _ s₁ (mkF m 46 #[.val (.int p1), .val (.int p2), .val (.int p3), .val (.int p4), .val (.int p5), .val (.int 3), .val (.int c0), .val (.int c1), .val (.int c2), .val (.int c3), .unset, .unset] [(.int 6), (.int 3)])
    refine oS (fun t k => XS.icmpNo X0.here hx rfl (hb hby at_46) rfl (feq (by decide : ¬ (3 : Int32) = 6)).1 k) ?_
    show oG p e below _ s₁ (mkF m 49 #[.val (.int p1), .val (.int p2), .val (.int p3), .val (.int p4), .val (.int p5), .val (.int 3), .val (.int c0), .val (.int c1), .val (.int c2), .val (.int c3), .unset, .unset] [])
    refine oS (fun t k => XS.iload X0.here hx rfl (hb hby at_49) rfl  k) ?_
    refine oS (fun t k => XS.bipush X0.here hx rfl (hb hby at_51) k) ?_
    show oG p e below _ s₁ (mkF m 53 #[.val (.int p1), .val (.int p2), .val (.int p3), .val (.int p4), .val (.int p5), .val (.int 3), .val (.int c0), .val (.int c1), .val (.int c2), .val (.int c3), .unset, .unset] [(.int 7), (.int 3)])
    refine oS (fun t k => XS.icmpYes X0.here hx rfl (pc0 := 53) (pc' := 114) rfl (hb hby at_53) rfl (feq (by decide : ¬ (3 : Int32) = 7)).2 (by decide) (by decide) k) ?_
    show oG p e below _ s₁ (mkF m 114 #[.val (.int p1), .val (.int p2), .val (.int p3), .val (.int p4), .val (.int p5), .val (.int 3), .val (.int c0), .val (.int c1), .val (.int c2), .val (.int c3), .unset, .unset] [])
    refine oS (fun t k => XS.iload X0.here hx rfl (hb hby at_114) rfl  k) ?_
    show oG p e below _ s₁ (mkF m 116 #[.val (.int p1), .val (.int p2), .val (.int p3), .val (.int p4), .val (.int p5), .val (.int 3), .val (.int c0), .val (.int c1), .val (.int c2), .val (.int c3), .unset, .unset] [(.int 3)])
    refine oS (fun t k => XS.ifYes X0.here hx rfl (pc0 := 116) (pc' := 137) rfl (hb hby at_116) rfl ((if0 _ _).trans (feq (by decide : ¬ (3 : Int32) = 0)).2) (by decide) (by decide) k) ?_
    show oG p e below _ s₁ (mkF m 137 #[.val (.int p1), .val (.int p2), .val (.int p3), .val (.int p4), .val (.int p5), .val (.int 3), .val (.int c0), .val (.int c1), .val (.int c2), .val (.int c3), .unset, .unset] [])
    refine oS (fun t k => XS.iload X0.here hx rfl (hb hby at_137) rfl  k) ?_
    refine oS (fun t k => XS.iconst X0.here hx rfl (hb hby at_139) k) ?_
    show oG p e below _ s₁ (mkF m 140 #[.val (.int p1), .val (.int p2), .val (.int p3), .val (.int p4), .val (.int p5), .val (.int 3), .val (.int c0), .val (.int c1), .val (.int c2), .val (.int c3), .unset, .unset] [(.int 1), (.int 3)])
    refine oS (fun t k => XS.icmpYes X0.here hx rfl (pc0 := 140) (pc' := 170) rfl (hb hby at_140) rfl (feq (by decide : ¬ (3 : Int32) = 1)).2 (by decide) (by decide) k) ?_
    show oG p e below _ s₁ (mkF m 170 #[.val (.int p1), .val (.int p2), .val (.int p3), .val (.int p4), .val (.int p5), .val (.int 3), .val (.int c0), .val (.int c1), .val (.int c2), .val (.int c3), .unset, .unset] [])
    refine oS (fun t k => XS.iload X0.here hx rfl (hb hby at_170) rfl  k) ?_
    refine oS (fun t k => XS.iconst X0.here hx rfl (hb hby at_172) k) ?_
    show oG p e below _ s₁ (mkF m 173 #[.val (.int p1), .val (.int p2), .val (.int p3), .val (.int p4), .val (.int p5), .val (.int 3), .val (.int c0), .val (.int c1), .val (.int c2), .val (.int c3), .unset, .unset] [(.int 2), (.int 3)])
    refine oS (fun t k => XS.icmpYes X0.here hx rfl (pc0 := 173) (pc' := 224) rfl (hb hby at_173) rfl (feq (by decide : ¬ (3 : Int32) = 2)).2 (by decide) (by decide) k) ?_
    show oG p e below _ s₁ (mkF m 224 #[.val (.int p1), .val (.int p2), .val (.int p3), .val (.int p4), .val (.int p5), .val (.int 3), .val (.int c0), .val (.int c1), .val (.int c2), .val (.int c3), .unset, .unset] [])
    refine oS (fun t k => XS.iload X0.here hx rfl (hb hby at_224) rfl  k) ?_
    refine oS (fun t k => XS.iconst X0.here hx rfl (hb hby at_226) k) ?_
    show oG p e below _ s₁ (mkF m 227 #[.val (.int p1), .val (.int p2), .val (.int p3), .val (.int p4), .val (.int p5), .val (.int 3), .val (.int c0), .val (.int c1), .val (.int c2), .val (.int c3), .unset, .unset] [(.int 3), (.int 3)])
    refine oS (fun t k => XS.icmpNo X0.here hx rfl (hb hby at_227) rfl (teq (rfl : (3 : Int32) = 3)).2 k) ?_
    show oG p e below _ s₁ (mkF m 230 #[.val (.int p1), .val (.int p2), .val (.int p3), .val (.int p4), .val (.int p5), .val (.int 3), .val (.int c0), .val (.int c1), .val (.int c2), .val (.int c3), .unset, .unset] [])
    obtain ⟨T230, h230, X230, e230, E230, A230, D230, -, st230⟩ := newO X0 hx hZ hown (oW hw 0 rfl) (oW hw 1 rfl) (oW hw 2 rfl) e0 (g := (mkF m 230 #[.val (.int p1), .val (.int p2), .val (.int p3), .val (.int p4), .val (.int p5), .val (.int 3), .val (.int c0), .val (.int c1), .val (.int c2), .val (.int c3), .unset, .unset] [])) rfl (hb hby at_230) (by decide) (by decide)
    obtain ⟨b230, g230⟩ : ∃ z, z = h0.size := ⟨_, rfl⟩
    rw [← g230] at A230 D230 st230
    have F230_value : Fld Z h230 b230 "java/lang/String" "value" "[B" .null := D230 (Or.inr (oW hw 16 rfl)) (ty := (.array .byte)) (by decide)
    have F230_coder : Fld Z h230 b230 "java/lang/String" "coder" "B" (.int 0) := D230 (Or.inr (oW hw 17 rfl)) (ty := .byte) (by decide)
    refine oS st230 ?_
    show oG p e below _ T230 (mkF m 233 #[.val (.int p1), .val (.int p2), .val (.int p3), .val (.int p4), .val (.int p5), .val (.int 3), .val (.int c0), .val (.int c1), .val (.int c2), .val (.int c3), .unset, .unset] [(.ref b230)])
    have SB := Safe.ext E230 K0.2.2.1.1 (Safe.new (Nat.le_of_eq g230.symm))
    have Op := O0.ext E230
    have Zp : n0 ≤ h230.size := Nat.le_trans Z0 E230.1
    have gs : n0 ≤ b230 := Nat.le_trans Z0 (Nat.le_of_eq g230.symm)
    have K230 := K0.ext E230
    refine oS (fun t k => XS.dup X230.here hx rfl (hb hby at_233) rfl rfl k) ?_
    refine oS (fun t k => XS.iconst X230.here hx rfl (hb hby at_234) k) ?_
    show oG p e below _ T230 (mkF m 235 #[.val (.int p1), .val (.int p2), .val (.int p3), .val (.int p4), .val (.int p5), .val (.int 3), .val (.int c0), .val (.int c1), .val (.int c2), .val (.int c3), .unset, .unset] [(.int 3), (.ref b230), (.ref b230)])
    obtain ⟨T235, h235, k235, X235, e235, E235, A235, st235⟩ := newP X230 hx hZ (oW hw 3 rfl) e230 (g := (mkF m 235 #[.val (.int p1), .val (.int p2), .val (.int p3), .val (.int p4), .val (.int p5), .val (.int 3), .val (.int c0), .val (.int c1), .val (.int c2), .val (.int c3), .unset, .unset] [(.int 3), (.ref b230), (.ref b230)])) rfl (hb hby at_235) rfl (by decide) (cap := 3) (by decide) (by decide) (by decide) (by decide)
    obtain ⟨b235, g235⟩ : ∃ z, z = h230.size := ⟨_, rfl⟩
    rw [← g235] at A235 st235
    have V235 : Arv Z h235 b235 k235 .char (3 : Int32) [(.int 0), (.int 0), (.int 0)] (.int 0) := (Arv.new A235 (by decide)).pad (pad_rep [] (.int 0) 3)
    refine oS st235 ?_
    show oG p e below _ T235 (mkF m 237 #[.val (.int p1), .val (.int p2), .val (.int p3), .val (.int p4), .val (.int p5), .val (.int 3), .val (.int c0), .val (.int c1), .val (.int c2), .val (.int c3), .unset, .unset] [(.ref b235), (.ref b230), (.ref b230)])
    have SQ := Safe.ext E235 K230.2.2.1.1 (Safe.new (Nat.le_of_eq g235.symm))
    have SB := Safe.ext E235 K230.2.2.1.1 SB
    have Oq := Op.ext E235
    have Zq : n0 ≤ h235.size := Nat.le_trans Zp E235.1
    have gq : n0 ≤ b235 := Nat.le_trans Zp (Nat.le_of_eq g235.symm)
    have ne : b230 ≠ b235 := Nat.ne_of_lt (Nat.lt_of_lt_of_le A230.lt (Nat.le_of_eq g235.symm))
    have EX := A230.ext E235
    have FV := F230_value.ext E235
    have FC := F230_coder.ext E235
    have K235 := K230.ext E235
    refine oS (fun t k => XS.dup X235.here hx rfl (hb hby at_237) rfl rfl k) ?_
    refine oS (fun t k => XS.iconst X235.here hx rfl (hb hby at_238) k) ?_
    refine oS (fun t k => XS.iload X235.here hx rfl (hb hby at_239) rfl  k) ?_
    show oG p e below _ T235 (mkF m 241 #[.val (.int p1), .val (.int p2), .val (.int p3), .val (.int p4), .val (.int p5), .val (.int 3), .val (.int c0), .val (.int c1), .val (.int c2), .val (.int c3), .unset, .unset] [(.int c0), (.int 0), (.ref b235), (.ref b235), (.ref b230), (.ref b230)])
    obtain ⟨cl241, Ar241, q241, S241, M241, H241, G241⟩ := V235
    have hin241 : ¬ ((0 : Int32) < 0 ∨ cl241.slots.size ≤ ((0 : Int32)).toNatClampNeg) := inb_of S241 ⟨by decide, by decide⟩
    obtain ⟨T241, h241, X241, e241, W241, st241⟩ := stC X235 hx hZ e235 Ar241 (j := (0 : Int32)) hin241 (g := (mkF m 241 #[.val (.int p1), .val (.int p2), .val (.int p3), .val (.int p4), .val (.int p5), .val (.int 3), .val (.int c0), .val (.int c1), .val (.int c2), .val (.int c3), .unset, .unset] [(.int c0), (.int 0), (.ref b235), (.ref b235), (.ref b230), (.ref b230)])) rfl rfl (hb hby at_241)
    refine oS st241 ?_
    have V241 := Arv.set Ar241 q241 S241 M241 H241 G241 (fits_nar_char _) W241 0 rfl (Nat.le_of_ble_eq_true rfl)
    have N241 := Fr.snoc X241 N0 gq
    show oG p e below _ T241 (mkF m 242 #[.val (.int p1), .val (.int p2), .val (.int p3), .val (.int p4), .val (.int p5), .val (.int 3), .val (.int c0), .val (.int c1), .val (.int c2), .val (.int c3), .unset, .unset] [(.ref b235), (.ref b230), (.ref b230)])
    rw [own_narC' hr0] at V241
    have K241 := K235.wr W241 SQ
    have SB := Safe.wr W241 SQ K235.2.2.1.1 SB
    have SQ := Safe.wr W241 SQ K235.2.2.1.1 SQ
    have Oq := Oq.wr W241 gq
    have Zq : n0 ≤ h241.size := Nat.le_trans Zq (Keep.of_wr W241).1
    have EX := EX.wr W241
    have FV := FV.other W241 (Or.inl ne)
    have FC := FC.other W241 (Or.inl ne)
    refine oS (fun t k => XS.dup X241.here hx rfl (hb hby at_242) rfl rfl k) ?_
    refine oS (fun t k => XS.iconst X241.here hx rfl (hb hby at_243) k) ?_
    refine oS (fun t k => XS.iload X241.here hx rfl (hb hby at_244) rfl  k) ?_
    show oG p e below _ T241 (mkF m 246 #[.val (.int p1), .val (.int p2), .val (.int p3), .val (.int p4), .val (.int p5), .val (.int 3), .val (.int c0), .val (.int c1), .val (.int c2), .val (.int c3), .unset, .unset] [(.int c1), (.int 1), (.ref b235), (.ref b235), (.ref b230), (.ref b230)])
    obtain ⟨cl246, Ar246, q246, S246, M246, H246, G246⟩ := V241
    have hin246 : ¬ ((1 : Int32) < 0 ∨ cl246.slots.size ≤ ((1 : Int32)).toNatClampNeg) := inb_of S246 ⟨by decide, by decide⟩
    obtain ⟨T246, h246, X246, e246, W246, st246⟩ := stC X241 hx hZ e241 Ar246 (j := (1 : Int32)) hin246 (g := (mkF m 246 #[.val (.int p1), .val (.int p2), .val (.int p3), .val (.int p4), .val (.int p5), .val (.int 3), .val (.int c0), .val (.int c1), .val (.int c2), .val (.int c3), .unset, .unset] [(.int c1), (.int 1), (.ref b235), (.ref b235), (.ref b230), (.ref b230)])) rfl rfl (hb hby at_246)
    refine oS st246 ?_
    have V246 := Arv.set Ar246 q246 S246 M246 H246 G246 (fits_nar_char _) W246 1 rfl (Nat.le_of_ble_eq_true rfl)
    have N246 := Fr.snoc X246 N241 gq
    show oG p e below _ T246 (mkF m 247 #[.val (.int p1), .val (.int p2), .val (.int p3), .val (.int p4), .val (.int p5), .val (.int 3), .val (.int c0), .val (.int c1), .val (.int c2), .val (.int c3), .unset, .unset] [(.ref b235), (.ref b230), (.ref b230)])
    rw [own_narC' hr1] at V246
    have K246 := K241.wr W246 SQ
    have SB := Safe.wr W246 SQ K241.2.2.1.1 SB
    have SQ := Safe.wr W246 SQ K241.2.2.1.1 SQ
    have Oq := Oq.wr W246 gq
    have Zq : n0 ≤ h246.size := Nat.le_trans Zq (Keep.of_wr W246).1
    have EX := EX.wr W246
    have FV := FV.other W246 (Or.inl ne)
    have FC := FC.other W246 (Or.inl ne)
    refine oS (fun t k => XS.dup X246.here hx rfl (hb hby at_247) rfl rfl k) ?_
    refine oS (fun t k => XS.iconst X246.here hx rfl (hb hby at_248) k) ?_
    refine oS (fun t k => XS.iload X246.here hx rfl (hb hby at_249) rfl  k) ?_
    show oG p e below _ T246 (mkF m 251 #[.val (.int p1), .val (.int p2), .val (.int p3), .val (.int p4), .val (.int p5), .val (.int 3), .val (.int c0), .val (.int c1), .val (.int c2), .val (.int c3), .unset, .unset] [(.int c2), (.int 2), (.ref b235), (.ref b235), (.ref b230), (.ref b230)])
    obtain ⟨cl251, Ar251, q251, S251, M251, H251, G251⟩ := V246
    have hin251 : ¬ ((2 : Int32) < 0 ∨ cl251.slots.size ≤ ((2 : Int32)).toNatClampNeg) := inb_of S251 ⟨by decide, by decide⟩
    obtain ⟨T251, h251, X251, e251, W251, st251⟩ := stC X246 hx hZ e246 Ar251 (j := (2 : Int32)) hin251 (g := (mkF m 251 #[.val (.int p1), .val (.int p2), .val (.int p3), .val (.int p4), .val (.int p5), .val (.int 3), .val (.int c0), .val (.int c1), .val (.int c2), .val (.int c3), .unset, .unset] [(.int c2), (.int 2), (.ref b235), (.ref b235), (.ref b230), (.ref b230)])) rfl rfl (hb hby at_251)
    refine oS st251 ?_
    have V251 := Arv.set Ar251 q251 S251 M251 H251 G251 (fits_nar_char _) W251 2 rfl (Nat.le_of_ble_eq_true rfl)
    have N251 := Fr.snoc X251 N246 gq
    show oG p e below _ T251 (mkF m 252 #[.val (.int p1), .val (.int p2), .val (.int p3), .val (.int p4), .val (.int p5), .val (.int 3), .val (.int c0), .val (.int c1), .val (.int c2), .val (.int c3), .unset, .unset] [(.ref b235), (.ref b230), (.ref b230)])
    rw [own_narC' hr2] at V251
    have K251 := K246.wr W251 SQ
    have SB := Safe.wr W251 SQ K246.2.2.1.1 SB
    have SQ := Safe.wr W251 SQ K246.2.2.1.1 SQ
    have Oq := Oq.wr W251 gq
    have Zq : n0 ≤ h251.size := Nat.le_trans Zq (Keep.of_wr W251).1
    have EX := EX.wr W251
    have FV := FV.other W251 (Or.inl ne)
    have FC := FC.other W251 (Or.inl ne)
    have hp : ∀ c ∈ ([c0, c1, c2] : List Int32), ¬ c < 0 ∧ ¬ (65535 : Int32) < c := by
      intro c hc
      simp only [List.mem_cons, List.not_mem_nil, or_false] at hc
      rcases hc with rfl | rfl | rfl
      · exact hr0
      · exact hr1
      · exact hr2
    have pays : own_Bk l room_1 p e below (s.setVm s.vm) #[(.int p1), (.int p2), (.int p3), (.int p4), (.int p5)] (⟨"java/lang/String", "<init>", "([C)V"⟩ : MethodName) 3 1 #[(.ref b230), (.ref b235)] h251 2 9 (own_QS Z b230 ([c0, c1, c2] : List Int32) h251 n0) := by
      by_cases hlat : ∀ c ∈ ([c0, c1, c2] : List Int32), ¬ (255 : Int32) < c
      · refine own_Bk.more (kc := 1) (ks := 3) (own_Bk.mono (Q := StrChars.Road.QV Z b230 (3 : Int32) (([c0, c1, c2] : List Int32).map (fun c : Int32 => c.toInt8.toInt32)) h251 n0) (StrChars.Road.backV (W := 1) hZ hws (kI := 4) (oW hw 1 rfl) (cs := ([c0, c1, c2] : List Int32)) (bs := ([c0, c1, c2] : List Int32).map (fun c : Int32 => c.toInt8.toInt32)) (n := 3) gs Zq EX FV FC V251 (SC.ext Oq.2) hCS rfl rfl (by decide) (by decide) (fun c hc => ⟨(hp c hc).1, hlat c hc⟩) rfl (by decide) (by decide)) ?_) (by decide) (by decide)
        rintro v h' L ⟨q1, q2, q3, q4, q5, t, kb, -, -, -, q6, q7⟩
        exact ⟨q1, q2, q3, t, kb, 0, (3 : Int32), _, q4, q6, q5, q7, StrChars.Road.codOf (n := 3) rfl hlat⟩
      · have hbig : 255 < c0 ∨ 255 < c1 ∨ 255 < c2 := by
          apply Classical.byContradiction
          intro q
          try simp only [not_or] at q
          apply hlat
          intro c hc
          simp only [List.mem_cons, List.not_mem_nil, or_false] at hc
          rcases hc with rfl | rfl | rfl
          · exact q.1
          · exact q.2.1
          · exact q.2.2
        exact own_back (W := 1) (rm_s3 l Z a0 hw [] b230 b235 k235 _ _ _ CS c0 c1 c2 h251 n0 Zq EX FV FC gs V251 hbig hp (SA.ext Oq.2) (SH.ext Oq.2) (SL.ext Oq.2) (SC.ext Oq.2) hCS) hZ (oW hw 6 rfl) (oW hw 2 rfl) (by decide) (by decide)
    refine own_callI X251 hx hZ (y := (⟨"java/lang/String", "<init>", "([C)V"⟩ : MethodName)) (W := 1) (Q := (own_QS Z b230 ([c0, c1, c2] : List Int32) h251 n0)) (kc := 2) (ks := 9) rfl hown (oW hw 4 rfl) (oW hw 5 rfl) (oW hw 6 rfl) pays (by decide) (g := (mkF m 252 #[.val (.int p1), .val (.int p2), .val (.int p3), .val (.int p4), .val (.int p5), .val (.int 3), .val (.int c0), .val (.int c1), .val (.int c2), .val (.int c3), .unset, .unset] [(.ref b235), (.ref b230), (.ref b230)])) rfl (by rw [hml]; rfl) (a := b230) (argsL := [(.ref b235)]) (rest := [(.ref b230)]) (lenOf pd_15 rfl) rfl (by show 2 * 0 + _ ≤ _; exact Nat.le_of_eq rfl) (hb hby at_252) rfl e251 (by decide) (by decide) (fun vC TC LC XC hQC => ?_)
    obtain ⟨rfl, MC, KP, S0, kb0, cd0, N20, vs0, SE, SV, SCo, SAr, Scd⟩ := hQC
    have KC := K251.keep KP (allS SB all0)
    have NC := Fr.app N251 MC
    have OC := Oq.keep KP (allS gs all0)
    have ZC : n0 ≤ TC.heap.size := Nat.le_trans Zq KP.1
    show oG p e below _ TC (mkF m 255 #[.val (.int p1), .val (.int p2), .val (.int p3), .val (.int p4), .val (.int p5), .val (.int 3), .val (.int c0), .val (.int c1), .val (.int c2), .val (.int c3), .unset, .unset] [(.ref b230)])
    refine oS (fun t k => XS.astore XC.here hx rfl (hb hby at_255) rfl rfl (l' := #[.val (.int p1), .val (.int p2), .val (.int p3), .val (.int p4), .val (.int p5), .val (.int 3), .val (.int c0), .val (.int c1), .val (.int c2), .val (.int c3), .val (.ref b230), .unset]) rfl k) ?_
    show oG p e below _ TC (mkF m 257 #[.val (.int p1), .val (.int p2), .val (.int p3), .val (.int p4), .val (.int p5), .val (.int 3), .val (.int c0), .val (.int c1), .val (.int c2), .val (.int c3), .val (.ref b230), .unset] [])
    refine oS (fun t k => XS.iload XC.here hx rfl (hb hby at_257) rfl  k) ?_
    show oG p e below _ TC (mkF m 259 #[.val (.int p1), .val (.int p2), .val (.int p3), .val (.int p4), .val (.int p5), .val (.int 3), .val (.int c0), .val (.int c1), .val (.int c2), .val (.int c3), .val (.ref b230), .unset] [(.int c0)])
    refine own_callS XC hx hZ (y := (⟨"com/example/loqix/loqix/TopicNameIsValidPinLaw", "ok", "(C)Z"⟩ : MethodName)) (W := 0) (kc := 0) (ks := 0) hown (oW hw 42 rfl) (oW hw 43 rfl) (oW hw 44 rfl) (oW hw 45 rfl) (own_back (W := 0) (rm_ok l Z a0 hw [] c0 TC.heap n0 ZC) hZ (oW hw 45 rfl) (oW hw 44 rfl) (by decide) (by decide)) (by decide) (g := (mkF m 259 #[.val (.int p1), .val (.int p2), .val (.int p3), .val (.int p4), .val (.int p5), .val (.int 3), .val (.int c0), .val (.int c1), .val (.int c2), .val (.int c3), .val (.ref b230), .unset] [(.int c0)])) rfl (by rw [hml]; rfl) (argsL := [(.int c0)]) (rest := []) (lenOf pd_17 rfl) rfl (by show 2 * 0 + _ ≤ _; exact Nat.le_of_eq rfl) (hb hby at_259) rfl rfl (by decide) (by decide) (fun vk0 Tk0 Lk0 Xk0 hQk0 => ?_)
    obtain ⟨rfl, Mk0, ek0⟩ := hQk0
    by_cases hk0 : okc c0
    · rw [own_okv, if_pos hk0]
      show oG p e below _ Tk0 (mkF m 262 #[.val (.int p1), .val (.int p2), .val (.int p3), .val (.int p4), .val (.int p5), .val (.int 3), .val (.int c0), .val (.int c1), .val (.int c2), .val (.int c3), .val (.ref b230), .unset] [(.int 1)])
      refine oS (fun t k => XS.ifNo Xk0.here hx rfl (hb hby at_262) rfl ((if0 _ _).trans (feq (by decide : ¬ (1 : Int32) = 0)).1) k) ?_
      show oG p e below _ Tk0 (mkF m 265 #[.val (.int p1), .val (.int p2), .val (.int p3), .val (.int p4), .val (.int p5), .val (.int 3), .val (.int c0), .val (.int c1), .val (.int c2), .val (.int c3), .val (.ref b230), .unset] [])
      refine oS (fun t k => XS.iload Xk0.here hx rfl (hb hby at_265) rfl  k) ?_
      show oG p e below _ Tk0 (mkF m 267 #[.val (.int p1), .val (.int p2), .val (.int p3), .val (.int p4), .val (.int p5), .val (.int 3), .val (.int c0), .val (.int c1), .val (.int c2), .val (.int c3), .val (.ref b230), .unset] [(.int c1)])
      refine own_callS Xk0 hx hZ (y := (⟨"com/example/loqix/loqix/TopicNameIsValidPinLaw", "ok", "(C)Z"⟩ : MethodName)) (W := 0) (kc := 0) (ks := 0) hown (oW hw 42 rfl) (oW hw 43 rfl) (oW hw 44 rfl) (oW hw 45 rfl) (own_back (W := 0) (rm_ok l Z a0 hw [] c1 TC.heap n0 ZC) hZ (oW hw 45 rfl) (oW hw 44 rfl) (by decide) (by decide)) (by decide) (g := (mkF m 267 #[.val (.int p1), .val (.int p2), .val (.int p3), .val (.int p4), .val (.int p5), .val (.int 3), .val (.int c0), .val (.int c1), .val (.int c2), .val (.int c3), .val (.ref b230), .unset] [(.int c1)])) rfl (by rw [hml]; rfl) (argsL := [(.int c1)]) (rest := []) (lenOf pd_17 rfl) rfl (by show 2 * 0 + _ ≤ _; exact Nat.le_of_eq rfl) (hb hby at_267) rfl ek0 (by decide) (by decide) (fun vk1 Tk1 Lk1 Xk1 hQk1 => ?_)
      obtain ⟨rfl, Mk1, ek1⟩ := hQk1
      by_cases hk1 : okc c1
      · rw [own_okv, if_pos hk1]
        show oG p e below _ Tk1 (mkF m 270 #[.val (.int p1), .val (.int p2), .val (.int p3), .val (.int p4), .val (.int p5), .val (.int 3), .val (.int c0), .val (.int c1), .val (.int c2), .val (.int c3), .val (.ref b230), .unset] [(.int 1)])
        refine oS (fun t k => XS.ifNo Xk1.here hx rfl (hb hby at_270) rfl ((if0 _ _).trans (feq (by decide : ¬ (1 : Int32) = 0)).1) k) ?_
        show oG p e below _ Tk1 (mkF m 273 #[.val (.int p1), .val (.int p2), .val (.int p3), .val (.int p4), .val (.int p5), .val (.int 3), .val (.int c0), .val (.int c1), .val (.int c2), .val (.int c3), .val (.ref b230), .unset] [])
        refine oS (fun t k => XS.iload Xk1.here hx rfl (hb hby at_273) rfl  k) ?_
        show oG p e below _ Tk1 (mkF m 275 #[.val (.int p1), .val (.int p2), .val (.int p3), .val (.int p4), .val (.int p5), .val (.int 3), .val (.int c0), .val (.int c1), .val (.int c2), .val (.int c3), .val (.ref b230), .unset] [(.int c2)])
        refine own_callS Xk1 hx hZ (y := (⟨"com/example/loqix/loqix/TopicNameIsValidPinLaw", "ok", "(C)Z"⟩ : MethodName)) (W := 0) (kc := 0) (ks := 0) hown (oW hw 42 rfl) (oW hw 43 rfl) (oW hw 44 rfl) (oW hw 45 rfl) (own_back (W := 0) (rm_ok l Z a0 hw [] c2 TC.heap n0 ZC) hZ (oW hw 45 rfl) (oW hw 44 rfl) (by decide) (by decide)) (by decide) (g := (mkF m 275 #[.val (.int p1), .val (.int p2), .val (.int p3), .val (.int p4), .val (.int p5), .val (.int 3), .val (.int c0), .val (.int c1), .val (.int c2), .val (.int c3), .val (.ref b230), .unset] [(.int c2)])) rfl (by rw [hml]; rfl) (argsL := [(.int c2)]) (rest := []) (lenOf pd_17 rfl) rfl (by show 2 * 0 + _ ≤ _; exact Nat.le_of_eq rfl) (hb hby at_275) rfl ek1 (by decide) (by decide) (fun vk2 Tk2 Lk2 Xk2 hQk2 => ?_)
        obtain ⟨rfl, Mk2, ek2⟩ := hQk2
        by_cases hk2 : okc c2
        · rw [own_okv, if_pos hk2]
          show oG p e below _ Tk2 (mkF m 278 #[.val (.int p1), .val (.int p2), .val (.int p3), .val (.int p4), .val (.int p5), .val (.int 3), .val (.int c0), .val (.int c1), .val (.int c2), .val (.int c3), .val (.ref b230), .unset] [(.int 1)])
          refine oS (fun t k => XS.ifNo Xk2.here hx rfl (hb hby at_278) rfl ((if0 _ _).trans (feq (by decide : ¬ (1 : Int32) = 0)).1) k) ?_
          show oG p e below _ Tk2 (mkF m 281 #[.val (.int p1), .val (.int p2), .val (.int p3), .val (.int p4), .val (.int p5), .val (.int 3), .val (.int c0), .val (.int c1), .val (.int c2), .val (.int c3), .val (.ref b230), .unset] [])
          refine oS (fun t k => XS.iconst Xk2.here hx rfl (hb hby at_281) k) ?_
          refine oS (fun t k => XS.goto Xk2.here hx rfl (pc0 := 282) (pc' := 286) rfl (hb hby at_282) (by decide) (by decide) k) ?_
          show oG p e below _ Tk2 (mkF m 286 #[.val (.int p1), .val (.int p2), .val (.int p3), .val (.int p4), .val (.int p5), .val (.int 3), .val (.int c0), .val (.int c1), .val (.int c2), .val (.int c3), .val (.ref b230), .unset] [(.int 1)])
          refine oS (fun t k => XS.istore Xk2.here hx rfl (hb hby at_286) rfl (l' := #[.val (.int p1), .val (.int p2), .val (.int p3), .val (.int p4), .val (.int p5), .val (.int 3), .val (.int c0), .val (.int c1), .val (.int c2), .val (.int c3), .val (.ref b230), .val (.int 1)]) rfl k) ?_
          show oG p e below _ Tk2 (mkF m 288 #[.val (.int p1), .val (.int p2), .val (.int p3), .val (.int p4), .val (.int p5), .val (.int 3), .val (.int c0), .val (.int c1), .val (.int c2), .val (.int c3), .val (.ref b230), .val (.int 1)] [])
          refine oS (fun t k => XS.goto Xk2.here hx rfl (pc0 := 288) (pc' := 362) rfl (hb hby at_288) (by decide) (by decide) k) ?_
          show oG p e below _ Tk2 (mkF m 362 #[.val (.int p1), .val (.int p2), .val (.int p3), .val (.int p4), .val (.int p5), .val (.int 3), .val (.int c0), .val (.int c1), .val (.int c2), .val (.int c3), .val (.ref b230), .val (.int 1)] [])
          refine oS (fun t k => XS.aload Xk2.here hx rfl (hb hby at_362) rfl rfl k) ?_
          show oG p e below _ Tk2 (mkF m 364 #[.val (.int p1), .val (.int p2), .val (.int p3), .val (.int p4), .val (.int p5), .val (.int 3), .val (.int c0), .val (.int c1), .val (.int c2), .val (.int c3), .val (.ref b230), .val (.int 1)] [(.ref b230)])
          refine own_callS Xk2 hx hZ (y := (⟨"com/example/loqix/loqix/TopicName", "isValid", "(Ljava/lang/String;)Z"⟩ : MethodName)) (W := 0) (kc := 0) (ks := 0) hown (oW hw 22 rfl) (oW hw 23 rfl) (oW hw 24 rfl) (oW hw 25 rfl) (own_back (W := 0) (rm_tn l Z a0 hw [] b230 S0 kb0 cd0 N20 vs0 ([c0, c1, c2] : List Int32) CS FM TC.heap n0 ZC SE SV SCo SAr Scd (Nat.le_of_ble_eq_true rfl) hp (SC.ext OC.2) (SF.ext OC.2) hCS rFM (SA.ext OC.2) (SH.ext OC.2) (SL.ext OC.2)) hZ (oW hw 25 rfl) (oW hw 24 rfl) (by decide) (by decide)) (by decide) (g := (mkF m 364 #[.val (.int p1), .val (.int p2), .val (.int p3), .val (.int p4), .val (.int p5), .val (.int 3), .val (.int c0), .val (.int c1), .val (.int c2), .val (.int c3), .val (.ref b230), .val (.int 1)] [(.ref b230)])) rfl (by rw [hml]; rfl) (argsL := [(.ref b230)]) (rest := []) (lenOf pd_16 rfl) rfl (by show 2 * 0 + _ ≤ _; exact Nat.le_of_eq rfl) (hb hby at_364) rfl ek2 (by decide) (by decide) (fun vV TV LV XV hQV => ?_)
          obtain ⟨rfl, MV, eV⟩ := hQV
          rw [show own_val ([c0, c1, c2] : List Int32) = 1 from own_vyes (Nat.le_of_ble_eq_true rfl) (Nat.le_of_ble_eq_true rfl) (by simp [hk0, hk1, hk2])]
          show oG p e below _ TV (mkF m 367 #[.val (.int p1), .val (.int p2), .val (.int p3), .val (.int p4), .val (.int p5), .val (.int 3), .val (.int c0), .val (.int c1), .val (.int c2), .val (.int c3), .val (.ref b230), .val (.int 1)] [(.int 1)])
          refine oS (fun t k => XS.iload XV.here hx rfl (hb hby at_367) rfl  k) ?_
          show oG p e below _ TV (mkF m 369 #[.val (.int p1), .val (.int p2), .val (.int p3), .val (.int p4), .val (.int p5), .val (.int 3), .val (.int c0), .val (.int c1), .val (.int c2), .val (.int c3), .val (.ref b230), .val (.int 1)] [(.int 1), (.int 1)])
          refine oS (fun t k => XS.icmpNo XV.here hx rfl (hb hby at_369) rfl (teq (rfl : (1 : Int32) = 1)).2 k) ?_
          show oG p e below _ TV (mkF m 372 #[.val (.int p1), .val (.int p2), .val (.int p3), .val (.int p4), .val (.int p5), .val (.int 3), .val (.int c0), .val (.int c1), .val (.int c2), .val (.int c3), .val (.ref b230), .val (.int 1)] [])
          refine oS (fun t k => XS.iconst XV.here hx rfl (hb hby at_372) k) ?_
          refine oS (fun t k => XS.goto XV.here hx rfl (pc0 := 373) (pc' := 377) rfl (hb hby at_373) (by decide) (by decide) k) ?_
          show oG p e below _ TV (mkF m 377 #[.val (.int p1), .val (.int p2), .val (.int p3), .val (.int p4), .val (.int p5), .val (.int 3), .val (.int c0), .val (.int c1), .val (.int c2), .val (.int c3), .val (.ref b230), .val (.int 1)] [(.int 1)])
          refine own_retHN (t := .boolean) XV KC eV hx hlk hret (by simp) (hb hby at_377) ?_ (by decide) (by decide)
          exact ⟨rfl, Fr.app (Fr.app (Fr.app (Fr.app NC Mk0) Mk1) Mk2) MV⟩
        · rw [own_okv, if_neg hk2]
          show oG p e below _ Tk2 (mkF m 278 #[.val (.int p1), .val (.int p2), .val (.int p3), .val (.int p4), .val (.int p5), .val (.int 3), .val (.int c0), .val (.int c1), .val (.int c2), .val (.int c3), .val (.ref b230), .unset] [(.int 0)])
          refine oS (fun t k => XS.ifYes Xk2.here hx rfl (pc0 := 278) (pc' := 285) rfl (hb hby at_278) rfl ((if0 _ _).trans (teq (rfl : (0 : Int32) = 0)).1) (by decide) (by decide) k) ?_
          show oG p e below _ Tk2 (mkF m 285 #[.val (.int p1), .val (.int p2), .val (.int p3), .val (.int p4), .val (.int p5), .val (.int 3), .val (.int c0), .val (.int c1), .val (.int c2), .val (.int c3), .val (.ref b230), .unset] [])
          refine oS (fun t k => XS.iconst Xk2.here hx rfl (hb hby at_285) k) ?_
          refine oS (fun t k => XS.istore Xk2.here hx rfl (hb hby at_286) rfl (l' := #[.val (.int p1), .val (.int p2), .val (.int p3), .val (.int p4), .val (.int p5), .val (.int 3), .val (.int c0), .val (.int c1), .val (.int c2), .val (.int c3), .val (.ref b230), .val (.int 0)]) rfl k) ?_
          show oG p e below _ Tk2 (mkF m 288 #[.val (.int p1), .val (.int p2), .val (.int p3), .val (.int p4), .val (.int p5), .val (.int 3), .val (.int c0), .val (.int c1), .val (.int c2), .val (.int c3), .val (.ref b230), .val (.int 0)] [])
          refine oS (fun t k => XS.goto Xk2.here hx rfl (pc0 := 288) (pc' := 362) rfl (hb hby at_288) (by decide) (by decide) k) ?_
          show oG p e below _ Tk2 (mkF m 362 #[.val (.int p1), .val (.int p2), .val (.int p3), .val (.int p4), .val (.int p5), .val (.int 3), .val (.int c0), .val (.int c1), .val (.int c2), .val (.int c3), .val (.ref b230), .val (.int 0)] [])
          refine oS (fun t k => XS.aload Xk2.here hx rfl (hb hby at_362) rfl rfl k) ?_
          show oG p e below _ Tk2 (mkF m 364 #[.val (.int p1), .val (.int p2), .val (.int p3), .val (.int p4), .val (.int p5), .val (.int 3), .val (.int c0), .val (.int c1), .val (.int c2), .val (.int c3), .val (.ref b230), .val (.int 0)] [(.ref b230)])
          refine own_callS Xk2 hx hZ (y := (⟨"com/example/loqix/loqix/TopicName", "isValid", "(Ljava/lang/String;)Z"⟩ : MethodName)) (W := 0) (kc := 0) (ks := 0) hown (oW hw 22 rfl) (oW hw 23 rfl) (oW hw 24 rfl) (oW hw 25 rfl) (own_back (W := 0) (rm_tn l Z a0 hw [] b230 S0 kb0 cd0 N20 vs0 ([c0, c1, c2] : List Int32) CS FM TC.heap n0 ZC SE SV SCo SAr Scd (Nat.le_of_ble_eq_true rfl) hp (SC.ext OC.2) (SF.ext OC.2) hCS rFM (SA.ext OC.2) (SH.ext OC.2) (SL.ext OC.2)) hZ (oW hw 25 rfl) (oW hw 24 rfl) (by decide) (by decide)) (by decide) (g := (mkF m 364 #[.val (.int p1), .val (.int p2), .val (.int p3), .val (.int p4), .val (.int p5), .val (.int 3), .val (.int c0), .val (.int c1), .val (.int c2), .val (.int c3), .val (.ref b230), .val (.int 0)] [(.ref b230)])) rfl (by rw [hml]; rfl) (argsL := [(.ref b230)]) (rest := []) (lenOf pd_16 rfl) rfl (by show 2 * 0 + _ ≤ _; exact Nat.le_of_eq rfl) (hb hby at_364) rfl ek2 (by decide) (by decide) (fun vV TV LV XV hQV => ?_)
          obtain ⟨rfl, MV, eV⟩ := hQV
          rw [show own_val ([c0, c1, c2] : List Int32) = 0 from own_vno (c := c2) (by simp) hk2]
          show oG p e below _ TV (mkF m 367 #[.val (.int p1), .val (.int p2), .val (.int p3), .val (.int p4), .val (.int p5), .val (.int 3), .val (.int c0), .val (.int c1), .val (.int c2), .val (.int c3), .val (.ref b230), .val (.int 0)] [(.int 0)])
          refine oS (fun t k => XS.iload XV.here hx rfl (hb hby at_367) rfl  k) ?_
          show oG p e below _ TV (mkF m 369 #[.val (.int p1), .val (.int p2), .val (.int p3), .val (.int p4), .val (.int p5), .val (.int 3), .val (.int c0), .val (.int c1), .val (.int c2), .val (.int c3), .val (.ref b230), .val (.int 0)] [(.int 0), (.int 0)])
          refine oS (fun t k => XS.icmpNo XV.here hx rfl (hb hby at_369) rfl (teq (rfl : (0 : Int32) = 0)).2 k) ?_
          show oG p e below _ TV (mkF m 372 #[.val (.int p1), .val (.int p2), .val (.int p3), .val (.int p4), .val (.int p5), .val (.int 3), .val (.int c0), .val (.int c1), .val (.int c2), .val (.int c3), .val (.ref b230), .val (.int 0)] [])
          refine oS (fun t k => XS.iconst XV.here hx rfl (hb hby at_372) k) ?_
          refine oS (fun t k => XS.goto XV.here hx rfl (pc0 := 373) (pc' := 377) rfl (hb hby at_373) (by decide) (by decide) k) ?_
          show oG p e below _ TV (mkF m 377 #[.val (.int p1), .val (.int p2), .val (.int p3), .val (.int p4), .val (.int p5), .val (.int 3), .val (.int c0), .val (.int c1), .val (.int c2), .val (.int c3), .val (.ref b230), .val (.int 0)] [(.int 1)])
          refine own_retHN (t := .boolean) XV KC eV hx hlk hret (by simp) (hb hby at_377) ?_ (by decide) (by decide)
          exact ⟨rfl, Fr.app (Fr.app (Fr.app (Fr.app NC Mk0) Mk1) Mk2) MV⟩
      · rw [own_okv, if_neg hk1]
        show oG p e below _ Tk1 (mkF m 270 #[.val (.int p1), .val (.int p2), .val (.int p3), .val (.int p4), .val (.int p5), .val (.int 3), .val (.int c0), .val (.int c1), .val (.int c2), .val (.int c3), .val (.ref b230), .unset] [(.int 0)])
        refine oS (fun t k => XS.ifYes Xk1.here hx rfl (pc0 := 270) (pc' := 285) rfl (hb hby at_270) rfl ((if0 _ _).trans (teq (rfl : (0 : Int32) = 0)).1) (by decide) (by decide) k) ?_
        show oG p e below _ Tk1 (mkF m 285 #[.val (.int p1), .val (.int p2), .val (.int p3), .val (.int p4), .val (.int p5), .val (.int 3), .val (.int c0), .val (.int c1), .val (.int c2), .val (.int c3), .val (.ref b230), .unset] [])
        refine oS (fun t k => XS.iconst Xk1.here hx rfl (hb hby at_285) k) ?_
        refine oS (fun t k => XS.istore Xk1.here hx rfl (hb hby at_286) rfl (l' := #[.val (.int p1), .val (.int p2), .val (.int p3), .val (.int p4), .val (.int p5), .val (.int 3), .val (.int c0), .val (.int c1), .val (.int c2), .val (.int c3), .val (.ref b230), .val (.int 0)]) rfl k) ?_
        show oG p e below _ Tk1 (mkF m 288 #[.val (.int p1), .val (.int p2), .val (.int p3), .val (.int p4), .val (.int p5), .val (.int 3), .val (.int c0), .val (.int c1), .val (.int c2), .val (.int c3), .val (.ref b230), .val (.int 0)] [])
        refine oS (fun t k => XS.goto Xk1.here hx rfl (pc0 := 288) (pc' := 362) rfl (hb hby at_288) (by decide) (by decide) k) ?_
        show oG p e below _ Tk1 (mkF m 362 #[.val (.int p1), .val (.int p2), .val (.int p3), .val (.int p4), .val (.int p5), .val (.int 3), .val (.int c0), .val (.int c1), .val (.int c2), .val (.int c3), .val (.ref b230), .val (.int 0)] [])
        refine oS (fun t k => XS.aload Xk1.here hx rfl (hb hby at_362) rfl rfl k) ?_
        show oG p e below _ Tk1 (mkF m 364 #[.val (.int p1), .val (.int p2), .val (.int p3), .val (.int p4), .val (.int p5), .val (.int 3), .val (.int c0), .val (.int c1), .val (.int c2), .val (.int c3), .val (.ref b230), .val (.int 0)] [(.ref b230)])
        refine own_callS Xk1 hx hZ (y := (⟨"com/example/loqix/loqix/TopicName", "isValid", "(Ljava/lang/String;)Z"⟩ : MethodName)) (W := 0) (kc := 0) (ks := 0) hown (oW hw 22 rfl) (oW hw 23 rfl) (oW hw 24 rfl) (oW hw 25 rfl) (own_back (W := 0) (rm_tn l Z a0 hw [] b230 S0 kb0 cd0 N20 vs0 ([c0, c1, c2] : List Int32) CS FM TC.heap n0 ZC SE SV SCo SAr Scd (Nat.le_of_ble_eq_true rfl) hp (SC.ext OC.2) (SF.ext OC.2) hCS rFM (SA.ext OC.2) (SH.ext OC.2) (SL.ext OC.2)) hZ (oW hw 25 rfl) (oW hw 24 rfl) (by decide) (by decide)) (by decide) (g := (mkF m 364 #[.val (.int p1), .val (.int p2), .val (.int p3), .val (.int p4), .val (.int p5), .val (.int 3), .val (.int c0), .val (.int c1), .val (.int c2), .val (.int c3), .val (.ref b230), .val (.int 0)] [(.ref b230)])) rfl (by rw [hml]; rfl) (argsL := [(.ref b230)]) (rest := []) (lenOf pd_16 rfl) rfl (by show 2 * 0 + _ ≤ _; exact Nat.le_of_eq rfl) (hb hby at_364) rfl ek1 (by decide) (by decide) (fun vV TV LV XV hQV => ?_)
        obtain ⟨rfl, MV, eV⟩ := hQV
        rw [show own_val ([c0, c1, c2] : List Int32) = 0 from own_vno (c := c1) (by simp) hk1]
        show oG p e below _ TV (mkF m 367 #[.val (.int p1), .val (.int p2), .val (.int p3), .val (.int p4), .val (.int p5), .val (.int 3), .val (.int c0), .val (.int c1), .val (.int c2), .val (.int c3), .val (.ref b230), .val (.int 0)] [(.int 0)])
        refine oS (fun t k => XS.iload XV.here hx rfl (hb hby at_367) rfl  k) ?_
        show oG p e below _ TV (mkF m 369 #[.val (.int p1), .val (.int p2), .val (.int p3), .val (.int p4), .val (.int p5), .val (.int 3), .val (.int c0), .val (.int c1), .val (.int c2), .val (.int c3), .val (.ref b230), .val (.int 0)] [(.int 0), (.int 0)])
        refine oS (fun t k => XS.icmpNo XV.here hx rfl (hb hby at_369) rfl (teq (rfl : (0 : Int32) = 0)).2 k) ?_
        show oG p e below _ TV (mkF m 372 #[.val (.int p1), .val (.int p2), .val (.int p3), .val (.int p4), .val (.int p5), .val (.int 3), .val (.int c0), .val (.int c1), .val (.int c2), .val (.int c3), .val (.ref b230), .val (.int 0)] [])
        refine oS (fun t k => XS.iconst XV.here hx rfl (hb hby at_372) k) ?_
        refine oS (fun t k => XS.goto XV.here hx rfl (pc0 := 373) (pc' := 377) rfl (hb hby at_373) (by decide) (by decide) k) ?_
        show oG p e below _ TV (mkF m 377 #[.val (.int p1), .val (.int p2), .val (.int p3), .val (.int p4), .val (.int p5), .val (.int 3), .val (.int c0), .val (.int c1), .val (.int c2), .val (.int c3), .val (.ref b230), .val (.int 0)] [(.int 1)])
        refine own_retHN (t := .boolean) XV KC eV hx hlk hret (by simp) (hb hby at_377) ?_ (by decide) (by decide)
        exact ⟨rfl, Fr.app (Fr.app (Fr.app NC Mk0) Mk1) MV⟩
    · rw [own_okv, if_neg hk0]
      show oG p e below _ Tk0 (mkF m 262 #[.val (.int p1), .val (.int p2), .val (.int p3), .val (.int p4), .val (.int p5), .val (.int 3), .val (.int c0), .val (.int c1), .val (.int c2), .val (.int c3), .val (.ref b230), .unset] [(.int 0)])
      refine oS (fun t k => XS.ifYes Xk0.here hx rfl (pc0 := 262) (pc' := 285) rfl (hb hby at_262) rfl ((if0 _ _).trans (teq (rfl : (0 : Int32) = 0)).1) (by decide) (by decide) k) ?_
      show oG p e below _ Tk0 (mkF m 285 #[.val (.int p1), .val (.int p2), .val (.int p3), .val (.int p4), .val (.int p5), .val (.int 3), .val (.int c0), .val (.int c1), .val (.int c2), .val (.int c3), .val (.ref b230), .unset] [])
      refine oS (fun t k => XS.iconst Xk0.here hx rfl (hb hby at_285) k) ?_
      refine oS (fun t k => XS.istore Xk0.here hx rfl (hb hby at_286) rfl (l' := #[.val (.int p1), .val (.int p2), .val (.int p3), .val (.int p4), .val (.int p5), .val (.int 3), .val (.int c0), .val (.int c1), .val (.int c2), .val (.int c3), .val (.ref b230), .val (.int 0)]) rfl k) ?_
      show oG p e below _ Tk0 (mkF m 288 #[.val (.int p1), .val (.int p2), .val (.int p3), .val (.int p4), .val (.int p5), .val (.int 3), .val (.int c0), .val (.int c1), .val (.int c2), .val (.int c3), .val (.ref b230), .val (.int 0)] [])
      refine oS (fun t k => XS.goto Xk0.here hx rfl (pc0 := 288) (pc' := 362) rfl (hb hby at_288) (by decide) (by decide) k) ?_
      show oG p e below _ Tk0 (mkF m 362 #[.val (.int p1), .val (.int p2), .val (.int p3), .val (.int p4), .val (.int p5), .val (.int 3), .val (.int c0), .val (.int c1), .val (.int c2), .val (.int c3), .val (.ref b230), .val (.int 0)] [])
      refine oS (fun t k => XS.aload Xk0.here hx rfl (hb hby at_362) rfl rfl k) ?_
      show oG p e below _ Tk0 (mkF m 364 #[.val (.int p1), .val (.int p2), .val (.int p3), .val (.int p4), .val (.int p5), .val (.int 3), .val (.int c0), .val (.int c1), .val (.int c2), .val (.int c3), .val (.ref b230), .val (.int 0)] [(.ref b230)])
      refine own_callS Xk0 hx hZ (y := (⟨"com/example/loqix/loqix/TopicName", "isValid", "(Ljava/lang/String;)Z"⟩ : MethodName)) (W := 0) (kc := 0) (ks := 0) hown (oW hw 22 rfl) (oW hw 23 rfl) (oW hw 24 rfl) (oW hw 25 rfl) (own_back (W := 0) (rm_tn l Z a0 hw [] b230 S0 kb0 cd0 N20 vs0 ([c0, c1, c2] : List Int32) CS FM TC.heap n0 ZC SE SV SCo SAr Scd (Nat.le_of_ble_eq_true rfl) hp (SC.ext OC.2) (SF.ext OC.2) hCS rFM (SA.ext OC.2) (SH.ext OC.2) (SL.ext OC.2)) hZ (oW hw 25 rfl) (oW hw 24 rfl) (by decide) (by decide)) (by decide) (g := (mkF m 364 #[.val (.int p1), .val (.int p2), .val (.int p3), .val (.int p4), .val (.int p5), .val (.int 3), .val (.int c0), .val (.int c1), .val (.int c2), .val (.int c3), .val (.ref b230), .val (.int 0)] [(.ref b230)])) rfl (by rw [hml]; rfl) (argsL := [(.ref b230)]) (rest := []) (lenOf pd_16 rfl) rfl (by show 2 * 0 + _ ≤ _; exact Nat.le_of_eq rfl) (hb hby at_364) rfl ek0 (by decide) (by decide) (fun vV TV LV XV hQV => ?_)
      obtain ⟨rfl, MV, eV⟩ := hQV
      rw [show own_val ([c0, c1, c2] : List Int32) = 0 from own_vno (c := c0) (by simp) hk0]
      show oG p e below _ TV (mkF m 367 #[.val (.int p1), .val (.int p2), .val (.int p3), .val (.int p4), .val (.int p5), .val (.int 3), .val (.int c0), .val (.int c1), .val (.int c2), .val (.int c3), .val (.ref b230), .val (.int 0)] [(.int 0)])
      refine oS (fun t k => XS.iload XV.here hx rfl (hb hby at_367) rfl  k) ?_
      show oG p e below _ TV (mkF m 369 #[.val (.int p1), .val (.int p2), .val (.int p3), .val (.int p4), .val (.int p5), .val (.int 3), .val (.int c0), .val (.int c1), .val (.int c2), .val (.int c3), .val (.ref b230), .val (.int 0)] [(.int 0), (.int 0)])
      refine oS (fun t k => XS.icmpNo XV.here hx rfl (hb hby at_369) rfl (teq (rfl : (0 : Int32) = 0)).2 k) ?_
      show oG p e below _ TV (mkF m 372 #[.val (.int p1), .val (.int p2), .val (.int p3), .val (.int p4), .val (.int p5), .val (.int 3), .val (.int c0), .val (.int c1), .val (.int c2), .val (.int c3), .val (.ref b230), .val (.int 0)] [])
      refine oS (fun t k => XS.iconst XV.here hx rfl (hb hby at_372) k) ?_
      refine oS (fun t k => XS.goto XV.here hx rfl (pc0 := 373) (pc' := 377) rfl (hb hby at_373) (by decide) (by decide) k) ?_
      show oG p e below _ TV (mkF m 377 #[.val (.int p1), .val (.int p2), .val (.int p3), .val (.int p4), .val (.int p5), .val (.int 3), .val (.int c0), .val (.int c1), .val (.int c2), .val (.int c3), .val (.ref b230), .val (.int 0)] [(.int 1)])
      refine own_retHN (t := .boolean) XV KC eV hx hlk hret (by simp) (hb hby at_377) ?_ (by decide) (by decide)
      exact ⟨rfl, Fr.app (Fr.app NC Mk0) MV⟩
  · rw [hq]
    show oG p e below _ s₁ (mkF m 23 #[.val (.int p1), .val (.int p2), .val (.int p3), .val (.int p4), .val (.int p5), .val (.int 4), .val (.int c0), .val (.int c1), .val (.int c2), .val (.int c3), .unset, .unset] [])
    refine oS (fun t k => XS.iload X0.here hx rfl (hb hby at_23) rfl  k) ?_
    refine oS (fun t k => XS.iconst X0.here hx rfl (hb hby at_25) k) ?_
    show oG p e below _ s₁ (mkF m 26 #[.val (.int p1), .val (.int p2), .val (.int p3), .val (.int p4), .val (.int p5), .val (.int 4), .val (.int c0), .val (.int c1), .val (.int c2), .val (.int c3), .unset, .unset] [(.int 5), (.int 4)])
    refine oS (fun t k => XS.icmpYes X0.here hx rfl (pc0 := 26) (pc' := 42) rfl (hb hby at_26) rfl (feq (by decide : ¬ (4 : Int32) = 5)).2 (by decide) (by decide) k) ?_
    show oG p e below _ s₁ (mkF m 42 #[.val (.int p1), .val (.int p2), .val (.int p3), .val (.int p4), .val (.int p5), .val (.int 4), .val (.int c0), .val (.int c1), .val (.int c2), .val (.int c3), .unset, .unset] [])
    refine oS (fun t k => XS.iload X0.here hx rfl (hb hby at_42) rfl  k) ?_
    refine oS (fun t k => XS.bipush X0.here hx rfl (hb hby at_44) k) ?_
    show oG p e below _ s₁ (mkF m 46 #[.val (.int p1), .val (.int p2), .val (.int p3), .val (.int p4), .val (.int p5), .val (.int 4), .val (.int c0), .val (.int c1), .val (.int c2), .val (.int c3), .unset, .unset] [(.int 6), (.int 4)])
    refine oS (fun t k => XS.icmpNo X0.here hx rfl (hb hby at_46) rfl (feq (by decide : ¬ (4 : Int32) = 6)).1 k) ?_
    show oG p e below _ s₁ (mkF m 49 #[.val (.int p1), .val (.int p2), .val (.int p3), .val (.int p4), .val (.int p5), .val (.int 4), .val (.int c0), .val (.int c1), .val (.int c2), .val (.int c3), .unset, .unset] [])
    refine oS (fun t k => XS.iload X0.here hx rfl (hb hby at_49) rfl  k) ?_
    refine oS (fun t k => XS.bipush X0.here hx rfl (hb hby at_51) k) ?_
    show oG p e below _ s₁ (mkF m 53 #[.val (.int p1), .val (.int p2), .val (.int p3), .val (.int p4), .val (.int p5), .val (.int 4), .val (.int c0), .val (.int c1), .val (.int c2), .val (.int c3), .unset, .unset] [(.int 7), (.int 4)])
    refine oS (fun t k => XS.icmpYes X0.here hx rfl (pc0 := 53) (pc' := 114) rfl (hb hby at_53) rfl (feq (by decide : ¬ (4 : Int32) = 7)).2 (by decide) (by decide) k) ?_
    show oG p e below _ s₁ (mkF m 114 #[.val (.int p1), .val (.int p2), .val (.int p3), .val (.int p4), .val (.int p5), .val (.int 4), .val (.int c0), .val (.int c1), .val (.int c2), .val (.int c3), .unset, .unset] [])
    refine oS (fun t k => XS.iload X0.here hx rfl (hb hby at_114) rfl  k) ?_
    show oG p e below _ s₁ (mkF m 116 #[.val (.int p1), .val (.int p2), .val (.int p3), .val (.int p4), .val (.int p5), .val (.int 4), .val (.int c0), .val (.int c1), .val (.int c2), .val (.int c3), .unset, .unset] [(.int 4)])
    refine oS (fun t k => XS.ifYes X0.here hx rfl (pc0 := 116) (pc' := 137) rfl (hb hby at_116) rfl ((if0 _ _).trans (feq (by decide : ¬ (4 : Int32) = 0)).2) (by decide) (by decide) k) ?_
    show oG p e below _ s₁ (mkF m 137 #[.val (.int p1), .val (.int p2), .val (.int p3), .val (.int p4), .val (.int p5), .val (.int 4), .val (.int c0), .val (.int c1), .val (.int c2), .val (.int c3), .unset, .unset] [])
    refine oS (fun t k => XS.iload X0.here hx rfl (hb hby at_137) rfl  k) ?_
    refine oS (fun t k => XS.iconst X0.here hx rfl (hb hby at_139) k) ?_
    show oG p e below _ s₁ (mkF m 140 #[.val (.int p1), .val (.int p2), .val (.int p3), .val (.int p4), .val (.int p5), .val (.int 4), .val (.int c0), .val (.int c1), .val (.int c2), .val (.int c3), .unset, .unset] [(.int 1), (.int 4)])
    refine oS (fun t k => XS.icmpYes X0.here hx rfl (pc0 := 140) (pc' := 170) rfl (hb hby at_140) rfl (feq (by decide : ¬ (4 : Int32) = 1)).2 (by decide) (by decide) k) ?_
    show oG p e below _ s₁ (mkF m 170 #[.val (.int p1), .val (.int p2), .val (.int p3), .val (.int p4), .val (.int p5), .val (.int 4), .val (.int c0), .val (.int c1), .val (.int c2), .val (.int c3), .unset, .unset] [])
    refine oS (fun t k => XS.iload X0.here hx rfl (hb hby at_170) rfl  k) ?_
    refine oS (fun t k => XS.iconst X0.here hx rfl (hb hby at_172) k) ?_
    show oG p e below _ s₁ (mkF m 173 #[.val (.int p1), .val (.int p2), .val (.int p3), .val (.int p4), .val (.int p5), .val (.int 4), .val (.int c0), .val (.int c1), .val (.int c2), .val (.int c3), .unset, .unset] [(.int 2), (.int 4)])
    refine oS (fun t k => XS.icmpYes X0.here hx rfl (pc0 := 173) (pc' := 224) rfl (hb hby at_173) rfl (feq (by decide : ¬ (4 : Int32) = 2)).2 (by decide) (by decide) k) ?_
    show oG p e below _ s₁ (mkF m 224 #[.val (.int p1), .val (.int p2), .val (.int p3), .val (.int p4), .val (.int p5), .val (.int 4), .val (.int c0), .val (.int c1), .val (.int c2), .val (.int c3), .unset, .unset] [])
    refine oS (fun t k => XS.iload X0.here hx rfl (hb hby at_224) rfl  k) ?_
    refine oS (fun t k => XS.iconst X0.here hx rfl (hb hby at_226) k) ?_
    show oG p e below _ s₁ (mkF m 227 #[.val (.int p1), .val (.int p2), .val (.int p3), .val (.int p4), .val (.int p5), .val (.int 4), .val (.int c0), .val (.int c1), .val (.int c2), .val (.int c3), .unset, .unset] [(.int 3), (.int 4)])
    refine oS (fun t k => XS.icmpYes X0.here hx rfl (pc0 := 227) (pc' := 291) rfl (hb hby at_227) rfl (feq (by decide : ¬ (4 : Int32) = 3)).2 (by decide) (by decide) k) ?_
    show oG p e below _ s₁ (mkF m 291 #[.val (.int p1), .val (.int p2), .val (.int p3), .val (.int p4), .val (.int p5), .val (.int 4), .val (.int c0), .val (.int c1), .val (.int c2), .val (.int c3), .unset, .unset] [])
    obtain ⟨T291, h291, X291, e291, E291, A291, D291, -, st291⟩ := newO X0 hx hZ hown (oW hw 0 rfl) (oW hw 1 rfl) (oW hw 2 rfl) e0 (g := (mkF m 291 #[.val (.int p1), .val (.int p2), .val (.int p3), .val (.int p4), .val (.int p5), .val (.int 4), .val (.int c0), .val (.int c1), .val (.int c2), .val (.int c3), .unset, .unset] [])) rfl (hb hby at_291) (by decide) (by decide)
    obtain ⟨b291, g291⟩ : ∃ z, z = h0.size := ⟨_, rfl⟩
    rw [← g291] at A291 D291 st291
    have F291_value : Fld Z h291 b291 "java/lang/String" "value" "[B" .null := D291 (Or.inr (oW hw 16 rfl)) (ty := (.array .byte)) (by decide)
    have F291_coder : Fld Z h291 b291 "java/lang/String" "coder" "B" (.int 0) := D291 (Or.inr (oW hw 17 rfl)) (ty := .byte) (by decide)
    refine oS st291 ?_
    show oG p e below _ T291 (mkF m 294 #[.val (.int p1), .val (.int p2), .val (.int p3), .val (.int p4), .val (.int p5), .val (.int 4), .val (.int c0), .val (.int c1), .val (.int c2), .val (.int c3), .unset, .unset] [(.ref b291)])
    have SB := Safe.ext E291 K0.2.2.1.1 (Safe.new (Nat.le_of_eq g291.symm))
    have Op := O0.ext E291
    have Zp : n0 ≤ h291.size := Nat.le_trans Z0 E291.1
    have gs : n0 ≤ b291 := Nat.le_trans Z0 (Nat.le_of_eq g291.symm)
    have K291 := K0.ext E291
    refine oS (fun t k => XS.dup X291.here hx rfl (hb hby at_294) rfl rfl k) ?_
    refine oS (fun t k => XS.iconst X291.here hx rfl (hb hby at_295) k) ?_
    show oG p e below _ T291 (mkF m 296 #[.val (.int p1), .val (.int p2), .val (.int p3), .val (.int p4), .val (.int p5), .val (.int 4), .val (.int c0), .val (.int c1), .val (.int c2), .val (.int c3), .unset, .unset] [(.int 4), (.ref b291), (.ref b291)])
    obtain ⟨T296, h296, k296, X296, e296, E296, A296, st296⟩ := newP X291 hx hZ (oW hw 3 rfl) e291 (g := (mkF m 296 #[.val (.int p1), .val (.int p2), .val (.int p3), .val (.int p4), .val (.int p5), .val (.int 4), .val (.int c0), .val (.int c1), .val (.int c2), .val (.int c3), .unset, .unset] [(.int 4), (.ref b291), (.ref b291)])) rfl (hb hby at_296) rfl (by decide) (cap := 4) (by decide) (by decide) (by decide) (by decide)
    obtain ⟨b296, g296⟩ : ∃ z, z = h291.size := ⟨_, rfl⟩
    rw [← g296] at A296 st296
    have V296 : Arv Z h296 b296 k296 .char (4 : Int32) [(.int 0), (.int 0), (.int 0), (.int 0)] (.int 0) := (Arv.new A296 (by decide)).pad (pad_rep [] (.int 0) 4)
    refine oS st296 ?_
    show oG p e below _ T296 (mkF m 298 #[.val (.int p1), .val (.int p2), .val (.int p3), .val (.int p4), .val (.int p5), .val (.int 4), .val (.int c0), .val (.int c1), .val (.int c2), .val (.int c3), .unset, .unset] [(.ref b296), (.ref b291), (.ref b291)])
    have SQ := Safe.ext E296 K291.2.2.1.1 (Safe.new (Nat.le_of_eq g296.symm))
    have SB := Safe.ext E296 K291.2.2.1.1 SB
    have Oq := Op.ext E296
    have Zq : n0 ≤ h296.size := Nat.le_trans Zp E296.1
    have gq : n0 ≤ b296 := Nat.le_trans Zp (Nat.le_of_eq g296.symm)
    have ne : b291 ≠ b296 := Nat.ne_of_lt (Nat.lt_of_lt_of_le A291.lt (Nat.le_of_eq g296.symm))
    have EX := A291.ext E296
    have FV := F291_value.ext E296
    have FC := F291_coder.ext E296
    have K296 := K291.ext E296
    refine oS (fun t k => XS.dup X296.here hx rfl (hb hby at_298) rfl rfl k) ?_
    refine oS (fun t k => XS.iconst X296.here hx rfl (hb hby at_299) k) ?_
    refine oS (fun t k => XS.iload X296.here hx rfl (hb hby at_300) rfl  k) ?_
    show oG p e below _ T296 (mkF m 302 #[.val (.int p1), .val (.int p2), .val (.int p3), .val (.int p4), .val (.int p5), .val (.int 4), .val (.int c0), .val (.int c1), .val (.int c2), .val (.int c3), .unset, .unset] [(.int c0), (.int 0), (.ref b296), (.ref b296), (.ref b291), (.ref b291)])
    obtain ⟨cl302, Ar302, q302, S302, M302, H302, G302⟩ := V296
    have hin302 : ¬ ((0 : Int32) < 0 ∨ cl302.slots.size ≤ ((0 : Int32)).toNatClampNeg) := inb_of S302 ⟨by decide, by decide⟩
    obtain ⟨T302, h302, X302, e302, W302, st302⟩ := stC X296 hx hZ e296 Ar302 (j := (0 : Int32)) hin302 (g := (mkF m 302 #[.val (.int p1), .val (.int p2), .val (.int p3), .val (.int p4), .val (.int p5), .val (.int 4), .val (.int c0), .val (.int c1), .val (.int c2), .val (.int c3), .unset, .unset] [(.int c0), (.int 0), (.ref b296), (.ref b296), (.ref b291), (.ref b291)])) rfl rfl (hb hby at_302)
    refine oS st302 ?_
    have V302 := Arv.set Ar302 q302 S302 M302 H302 G302 (fits_nar_char _) W302 0 rfl (Nat.le_of_ble_eq_true rfl)
    have N302 := Fr.snoc X302 N0 gq
    show oG p e below _ T302 (mkF m 303 #[.val (.int p1), .val (.int p2), .val (.int p3), .val (.int p4), .val (.int p5), .val (.int 4), .val (.int c0), .val (.int c1), .val (.int c2), .val (.int c3), .unset, .unset] [(.ref b296), (.ref b291), (.ref b291)])
    rw [own_narC' hr0] at V302
    have K302 := K296.wr W302 SQ
    have SB := Safe.wr W302 SQ K296.2.2.1.1 SB
    have SQ := Safe.wr W302 SQ K296.2.2.1.1 SQ
    have Oq := Oq.wr W302 gq
    have Zq : n0 ≤ h302.size := Nat.le_trans Zq (Keep.of_wr W302).1
    have EX := EX.wr W302
    have FV := FV.other W302 (Or.inl ne)
    have FC := FC.other W302 (Or.inl ne)
    refine oS (fun t k => XS.dup X302.here hx rfl (hb hby at_303) rfl rfl k) ?_
    refine oS (fun t k => XS.iconst X302.here hx rfl (hb hby at_304) k) ?_
    refine oS (fun t k => XS.iload X302.here hx rfl (hb hby at_305) rfl  k) ?_
    show oG p e below _ T302 (mkF m 307 #[.val (.int p1), .val (.int p2), .val (.int p3), .val (.int p4), .val (.int p5), .val (.int 4), .val (.int c0), .val (.int c1), .val (.int c2), .val (.int c3), .unset, .unset] [(.int c1), (.int 1), (.ref b296), (.ref b296), (.ref b291), (.ref b291)])
    obtain ⟨cl307, Ar307, q307, S307, M307, H307, G307⟩ := V302
    have hin307 : ¬ ((1 : Int32) < 0 ∨ cl307.slots.size ≤ ((1 : Int32)).toNatClampNeg) := inb_of S307 ⟨by decide, by decide⟩
    obtain ⟨T307, h307, X307, e307, W307, st307⟩ := stC X302 hx hZ e302 Ar307 (j := (1 : Int32)) hin307 (g := (mkF m 307 #[.val (.int p1), .val (.int p2), .val (.int p3), .val (.int p4), .val (.int p5), .val (.int 4), .val (.int c0), .val (.int c1), .val (.int c2), .val (.int c3), .unset, .unset] [(.int c1), (.int 1), (.ref b296), (.ref b296), (.ref b291), (.ref b291)])) rfl rfl (hb hby at_307)
    refine oS st307 ?_
    have V307 := Arv.set Ar307 q307 S307 M307 H307 G307 (fits_nar_char _) W307 1 rfl (Nat.le_of_ble_eq_true rfl)
    have N307 := Fr.snoc X307 N302 gq
    show oG p e below _ T307 (mkF m 308 #[.val (.int p1), .val (.int p2), .val (.int p3), .val (.int p4), .val (.int p5), .val (.int 4), .val (.int c0), .val (.int c1), .val (.int c2), .val (.int c3), .unset, .unset] [(.ref b296), (.ref b291), (.ref b291)])
    rw [own_narC' hr1] at V307
    have K307 := K302.wr W307 SQ
    have SB := Safe.wr W307 SQ K302.2.2.1.1 SB
    have SQ := Safe.wr W307 SQ K302.2.2.1.1 SQ
    have Oq := Oq.wr W307 gq
    have Zq : n0 ≤ h307.size := Nat.le_trans Zq (Keep.of_wr W307).1
    have EX := EX.wr W307
    have FV := FV.other W307 (Or.inl ne)
    have FC := FC.other W307 (Or.inl ne)
    refine oS (fun t k => XS.dup X307.here hx rfl (hb hby at_308) rfl rfl k) ?_
    refine oS (fun t k => XS.iconst X307.here hx rfl (hb hby at_309) k) ?_
    refine oS (fun t k => XS.iload X307.here hx rfl (hb hby at_310) rfl  k) ?_
    show oG p e below _ T307 (mkF m 312 #[.val (.int p1), .val (.int p2), .val (.int p3), .val (.int p4), .val (.int p5), .val (.int 4), .val (.int c0), .val (.int c1), .val (.int c2), .val (.int c3), .unset, .unset] [(.int c2), (.int 2), (.ref b296), (.ref b296), (.ref b291), (.ref b291)])
    obtain ⟨cl312, Ar312, q312, S312, M312, H312, G312⟩ := V307
    have hin312 : ¬ ((2 : Int32) < 0 ∨ cl312.slots.size ≤ ((2 : Int32)).toNatClampNeg) := inb_of S312 ⟨by decide, by decide⟩
    obtain ⟨T312, h312, X312, e312, W312, st312⟩ := stC X307 hx hZ e307 Ar312 (j := (2 : Int32)) hin312 (g := (mkF m 312 #[.val (.int p1), .val (.int p2), .val (.int p3), .val (.int p4), .val (.int p5), .val (.int 4), .val (.int c0), .val (.int c1), .val (.int c2), .val (.int c3), .unset, .unset] [(.int c2), (.int 2), (.ref b296), (.ref b296), (.ref b291), (.ref b291)])) rfl rfl (hb hby at_312)
    refine oS st312 ?_
    have V312 := Arv.set Ar312 q312 S312 M312 H312 G312 (fits_nar_char _) W312 2 rfl (Nat.le_of_ble_eq_true rfl)
    have N312 := Fr.snoc X312 N307 gq
    show oG p e below _ T312 (mkF m 313 #[.val (.int p1), .val (.int p2), .val (.int p3), .val (.int p4), .val (.int p5), .val (.int 4), .val (.int c0), .val (.int c1), .val (.int c2), .val (.int c3), .unset, .unset] [(.ref b296), (.ref b291), (.ref b291)])
    rw [own_narC' hr2] at V312
    have K312 := K307.wr W312 SQ
    have SB := Safe.wr W312 SQ K307.2.2.1.1 SB
    have SQ := Safe.wr W312 SQ K307.2.2.1.1 SQ
    have Oq := Oq.wr W312 gq
    have Zq : n0 ≤ h312.size := Nat.le_trans Zq (Keep.of_wr W312).1
    have EX := EX.wr W312
    have FV := FV.other W312 (Or.inl ne)
    have FC := FC.other W312 (Or.inl ne)
    refine oS (fun t k => XS.dup X312.here hx rfl (hb hby at_313) rfl rfl k) ?_
    refine oS (fun t k => XS.iconst X312.here hx rfl (hb hby at_314) k) ?_
    refine oS (fun t k => XS.iload X312.here hx rfl (hb hby at_315) rfl  k) ?_
    show oG p e below _ T312 (mkF m 317 #[.val (.int p1), .val (.int p2), .val (.int p3), .val (.int p4), .val (.int p5), .val (.int 4), .val (.int c0), .val (.int c1), .val (.int c2), .val (.int c3), .unset, .unset] [(.int c3), (.int 3), (.ref b296), (.ref b296), (.ref b291), (.ref b291)])
    obtain ⟨cl317, Ar317, q317, S317, M317, H317, G317⟩ := V312
    have hin317 : ¬ ((3 : Int32) < 0 ∨ cl317.slots.size ≤ ((3 : Int32)).toNatClampNeg) := inb_of S317 ⟨by decide, by decide⟩
    obtain ⟨T317, h317, X317, e317, W317, st317⟩ := stC X312 hx hZ e312 Ar317 (j := (3 : Int32)) hin317 (g := (mkF m 317 #[.val (.int p1), .val (.int p2), .val (.int p3), .val (.int p4), .val (.int p5), .val (.int 4), .val (.int c0), .val (.int c1), .val (.int c2), .val (.int c3), .unset, .unset] [(.int c3), (.int 3), (.ref b296), (.ref b296), (.ref b291), (.ref b291)])) rfl rfl (hb hby at_317)
    refine oS st317 ?_
    have V317 := Arv.set Ar317 q317 S317 M317 H317 G317 (fits_nar_char _) W317 3 rfl (Nat.le_of_ble_eq_true rfl)
    have N317 := Fr.snoc X317 N312 gq
    show oG p e below _ T317 (mkF m 318 #[.val (.int p1), .val (.int p2), .val (.int p3), .val (.int p4), .val (.int p5), .val (.int 4), .val (.int c0), .val (.int c1), .val (.int c2), .val (.int c3), .unset, .unset] [(.ref b296), (.ref b291), (.ref b291)])
    rw [own_narC' hr3] at V317
    have K317 := K312.wr W317 SQ
    have SB := Safe.wr W317 SQ K312.2.2.1.1 SB
    have SQ := Safe.wr W317 SQ K312.2.2.1.1 SQ
    have Oq := Oq.wr W317 gq
    have Zq : n0 ≤ h317.size := Nat.le_trans Zq (Keep.of_wr W317).1
    have EX := EX.wr W317
    have FV := FV.other W317 (Or.inl ne)
    have FC := FC.other W317 (Or.inl ne)
    have hp : ∀ c ∈ ([c0, c1, c2, c3] : List Int32), ¬ c < 0 ∧ ¬ (65535 : Int32) < c := by
      intro c hc
      simp only [List.mem_cons, List.not_mem_nil, or_false] at hc
      rcases hc with rfl | rfl | rfl | rfl
      · exact hr0
      · exact hr1
      · exact hr2
      · exact hr3
    have pays : own_Bk l room_1 p e below (s.setVm s.vm) #[(.int p1), (.int p2), (.int p3), (.int p4), (.int p5)] (⟨"java/lang/String", "<init>", "([C)V"⟩ : MethodName) 3 1 #[(.ref b291), (.ref b296)] h317 2 12 (own_QS Z b291 ([c0, c1, c2, c3] : List Int32) h317 n0) := by
      by_cases hlat : ∀ c ∈ ([c0, c1, c2, c3] : List Int32), ¬ (255 : Int32) < c
      · refine own_Bk.more (kc := 1) (ks := 4) (own_Bk.mono (Q := StrChars.Road.QV Z b291 (4 : Int32) (([c0, c1, c2, c3] : List Int32).map (fun c : Int32 => c.toInt8.toInt32)) h317 n0) (StrChars.Road.backV (W := 1) hZ hws (kI := 4) (oW hw 1 rfl) (cs := ([c0, c1, c2, c3] : List Int32)) (bs := ([c0, c1, c2, c3] : List Int32).map (fun c : Int32 => c.toInt8.toInt32)) (n := 4) gs Zq EX FV FC V317 (SC.ext Oq.2) hCS rfl rfl (by decide) (by decide) (fun c hc => ⟨(hp c hc).1, hlat c hc⟩) rfl (by decide) (by decide)) ?_) (by decide) (by decide)
        rintro v h' L ⟨q1, q2, q3, q4, q5, t, kb, -, -, -, q6, q7⟩
        exact ⟨q1, q2, q3, t, kb, 0, (4 : Int32), _, q4, q6, q5, q7, StrChars.Road.codOf (n := 4) rfl hlat⟩
      · have hbig : 255 < c0 ∨ 255 < c1 ∨ 255 < c2 ∨ 255 < c3 := by
          apply Classical.byContradiction
          intro q
          try simp only [not_or] at q
          apply hlat
          intro c hc
          simp only [List.mem_cons, List.not_mem_nil, or_false] at hc
          rcases hc with rfl | rfl | rfl | rfl
          · exact q.1
          · exact q.2.1
          · exact q.2.2.1
          · exact q.2.2.2
        exact own_back (W := 1) (rm_s4 l Z a0 hw [] b291 b296 k296 _ _ _ CS c0 c1 c2 c3 h317 n0 Zq EX FV FC gs V317 hbig hp (SA.ext Oq.2) (SH.ext Oq.2) (SL.ext Oq.2) (SC.ext Oq.2) hCS) hZ (oW hw 6 rfl) (oW hw 2 rfl) (by decide) (by decide)
    refine own_callI X317 hx hZ (y := (⟨"java/lang/String", "<init>", "([C)V"⟩ : MethodName)) (W := 1) (Q := (own_QS Z b291 ([c0, c1, c2, c3] : List Int32) h317 n0)) (kc := 2) (ks := 12) rfl hown (oW hw 4 rfl) (oW hw 5 rfl) (oW hw 6 rfl) pays (by decide) (g := (mkF m 318 #[.val (.int p1), .val (.int p2), .val (.int p3), .val (.int p4), .val (.int p5), .val (.int 4), .val (.int c0), .val (.int c1), .val (.int c2), .val (.int c3), .unset, .unset] [(.ref b296), (.ref b291), (.ref b291)])) rfl (by rw [hml]; rfl) (a := b291) (argsL := [(.ref b296)]) (rest := [(.ref b291)]) (lenOf pd_15 rfl) rfl (by show 2 * 0 + _ ≤ _; exact Nat.le_of_eq rfl) (hb hby at_318) rfl e317 (by decide) (by decide) (fun vC TC LC XC hQC => ?_)
    obtain ⟨rfl, MC, KP, S0, kb0, cd0, N20, vs0, SE, SV, SCo, SAr, Scd⟩ := hQC
    have KC := K317.keep KP (allS SB all0)
    have NC := Fr.app N317 MC
    have OC := Oq.keep KP (allS gs all0)
    have ZC : n0 ≤ TC.heap.size := Nat.le_trans Zq KP.1
    show oG p e below _ TC (mkF m 321 #[.val (.int p1), .val (.int p2), .val (.int p3), .val (.int p4), .val (.int p5), .val (.int 4), .val (.int c0), .val (.int c1), .val (.int c2), .val (.int c3), .unset, .unset] [(.ref b291)])
    refine oS (fun t k => XS.astore XC.here hx rfl (hb hby at_321) rfl rfl (l' := #[.val (.int p1), .val (.int p2), .val (.int p3), .val (.int p4), .val (.int p5), .val (.int 4), .val (.int c0), .val (.int c1), .val (.int c2), .val (.int c3), .val (.ref b291), .unset]) rfl k) ?_
    show oG p e below _ TC (mkF m 323 #[.val (.int p1), .val (.int p2), .val (.int p3), .val (.int p4), .val (.int p5), .val (.int 4), .val (.int c0), .val (.int c1), .val (.int c2), .val (.int c3), .val (.ref b291), .unset] [])
    refine oS (fun t k => XS.iload XC.here hx rfl (hb hby at_323) rfl  k) ?_
    show oG p e below _ TC (mkF m 325 #[.val (.int p1), .val (.int p2), .val (.int p3), .val (.int p4), .val (.int p5), .val (.int 4), .val (.int c0), .val (.int c1), .val (.int c2), .val (.int c3), .val (.ref b291), .unset] [(.int c0)])
    refine own_callS XC hx hZ (y := (⟨"com/example/loqix/loqix/TopicNameIsValidPinLaw", "ok", "(C)Z"⟩ : MethodName)) (W := 0) (kc := 0) (ks := 0) hown (oW hw 42 rfl) (oW hw 43 rfl) (oW hw 44 rfl) (oW hw 45 rfl) (own_back (W := 0) (rm_ok l Z a0 hw [] c0 TC.heap n0 ZC) hZ (oW hw 45 rfl) (oW hw 44 rfl) (by decide) (by decide)) (by decide) (g := (mkF m 325 #[.val (.int p1), .val (.int p2), .val (.int p3), .val (.int p4), .val (.int p5), .val (.int 4), .val (.int c0), .val (.int c1), .val (.int c2), .val (.int c3), .val (.ref b291), .unset] [(.int c0)])) rfl (by rw [hml]; rfl) (argsL := [(.int c0)]) (rest := []) (lenOf pd_17 rfl) rfl (by show 2 * 0 + _ ≤ _; exact Nat.le_of_eq rfl) (hb hby at_325) rfl rfl (by decide) (by decide) (fun vk0 Tk0 Lk0 Xk0 hQk0 => ?_)
    obtain ⟨rfl, Mk0, ek0⟩ := hQk0
    by_cases hk0 : okc c0
    · rw [own_okv, if_pos hk0]
      show oG p e below _ Tk0 (mkF m 328 #[.val (.int p1), .val (.int p2), .val (.int p3), .val (.int p4), .val (.int p5), .val (.int 4), .val (.int c0), .val (.int c1), .val (.int c2), .val (.int c3), .val (.ref b291), .unset] [(.int 1)])
      refine oS (fun t k => XS.ifNo Xk0.here hx rfl (hb hby at_328) rfl ((if0 _ _).trans (feq (by decide : ¬ (1 : Int32) = 0)).1) k) ?_
      show oG p e below _ Tk0 (mkF m 331 #[.val (.int p1), .val (.int p2), .val (.int p3), .val (.int p4), .val (.int p5), .val (.int 4), .val (.int c0), .val (.int c1), .val (.int c2), .val (.int c3), .val (.ref b291), .unset] [])
      refine oS (fun t k => XS.iload Xk0.here hx rfl (hb hby at_331) rfl  k) ?_
      show oG p e below _ Tk0 (mkF m 333 #[.val (.int p1), .val (.int p2), .val (.int p3), .val (.int p4), .val (.int p5), .val (.int 4), .val (.int c0), .val (.int c1), .val (.int c2), .val (.int c3), .val (.ref b291), .unset] [(.int c1)])
      refine own_callS Xk0 hx hZ (y := (⟨"com/example/loqix/loqix/TopicNameIsValidPinLaw", "ok", "(C)Z"⟩ : MethodName)) (W := 0) (kc := 0) (ks := 0) hown (oW hw 42 rfl) (oW hw 43 rfl) (oW hw 44 rfl) (oW hw 45 rfl) (own_back (W := 0) (rm_ok l Z a0 hw [] c1 TC.heap n0 ZC) hZ (oW hw 45 rfl) (oW hw 44 rfl) (by decide) (by decide)) (by decide) (g := (mkF m 333 #[.val (.int p1), .val (.int p2), .val (.int p3), .val (.int p4), .val (.int p5), .val (.int 4), .val (.int c0), .val (.int c1), .val (.int c2), .val (.int c3), .val (.ref b291), .unset] [(.int c1)])) rfl (by rw [hml]; rfl) (argsL := [(.int c1)]) (rest := []) (lenOf pd_17 rfl) rfl (by show 2 * 0 + _ ≤ _; exact Nat.le_of_eq rfl) (hb hby at_333) rfl ek0 (by decide) (by decide) (fun vk1 Tk1 Lk1 Xk1 hQk1 => ?_)
      obtain ⟨rfl, Mk1, ek1⟩ := hQk1
      by_cases hk1 : okc c1
      · rw [own_okv, if_pos hk1]
        show oG p e below _ Tk1 (mkF m 336 #[.val (.int p1), .val (.int p2), .val (.int p3), .val (.int p4), .val (.int p5), .val (.int 4), .val (.int c0), .val (.int c1), .val (.int c2), .val (.int c3), .val (.ref b291), .unset] [(.int 1)])
        refine oS (fun t k => XS.ifNo Xk1.here hx rfl (hb hby at_336) rfl ((if0 _ _).trans (feq (by decide : ¬ (1 : Int32) = 0)).1) k) ?_
        show oG p e below _ Tk1 (mkF m 339 #[.val (.int p1), .val (.int p2), .val (.int p3), .val (.int p4), .val (.int p5), .val (.int 4), .val (.int c0), .val (.int c1), .val (.int c2), .val (.int c3), .val (.ref b291), .unset] [])
        refine oS (fun t k => XS.iload Xk1.here hx rfl (hb hby at_339) rfl  k) ?_
        show oG p e below _ Tk1 (mkF m 341 #[.val (.int p1), .val (.int p2), .val (.int p3), .val (.int p4), .val (.int p5), .val (.int 4), .val (.int c0), .val (.int c1), .val (.int c2), .val (.int c3), .val (.ref b291), .unset] [(.int c2)])
        refine own_callS Xk1 hx hZ (y := (⟨"com/example/loqix/loqix/TopicNameIsValidPinLaw", "ok", "(C)Z"⟩ : MethodName)) (W := 0) (kc := 0) (ks := 0) hown (oW hw 42 rfl) (oW hw 43 rfl) (oW hw 44 rfl) (oW hw 45 rfl) (own_back (W := 0) (rm_ok l Z a0 hw [] c2 TC.heap n0 ZC) hZ (oW hw 45 rfl) (oW hw 44 rfl) (by decide) (by decide)) (by decide) (g := (mkF m 341 #[.val (.int p1), .val (.int p2), .val (.int p3), .val (.int p4), .val (.int p5), .val (.int 4), .val (.int c0), .val (.int c1), .val (.int c2), .val (.int c3), .val (.ref b291), .unset] [(.int c2)])) rfl (by rw [hml]; rfl) (argsL := [(.int c2)]) (rest := []) (lenOf pd_17 rfl) rfl (by show 2 * 0 + _ ≤ _; exact Nat.le_of_eq rfl) (hb hby at_341) rfl ek1 (by decide) (by decide) (fun vk2 Tk2 Lk2 Xk2 hQk2 => ?_)
        obtain ⟨rfl, Mk2, ek2⟩ := hQk2
        by_cases hk2 : okc c2
        · rw [own_okv, if_pos hk2]
          show oG p e below _ Tk2 (mkF m 344 #[.val (.int p1), .val (.int p2), .val (.int p3), .val (.int p4), .val (.int p5), .val (.int 4), .val (.int c0), .val (.int c1), .val (.int c2), .val (.int c3), .val (.ref b291), .unset] [(.int 1)])
          refine oS (fun t k => XS.ifNo Xk2.here hx rfl (hb hby at_344) rfl ((if0 _ _).trans (feq (by decide : ¬ (1 : Int32) = 0)).1) k) ?_
          show oG p e below _ Tk2 (mkF m 347 #[.val (.int p1), .val (.int p2), .val (.int p3), .val (.int p4), .val (.int p5), .val (.int 4), .val (.int c0), .val (.int c1), .val (.int c2), .val (.int c3), .val (.ref b291), .unset] [])
          refine oS (fun t k => XS.iload Xk2.here hx rfl (hb hby at_347) rfl  k) ?_
          show oG p e below _ Tk2 (mkF m 349 #[.val (.int p1), .val (.int p2), .val (.int p3), .val (.int p4), .val (.int p5), .val (.int 4), .val (.int c0), .val (.int c1), .val (.int c2), .val (.int c3), .val (.ref b291), .unset] [(.int c3)])
          refine own_callS Xk2 hx hZ (y := (⟨"com/example/loqix/loqix/TopicNameIsValidPinLaw", "ok", "(C)Z"⟩ : MethodName)) (W := 0) (kc := 0) (ks := 0) hown (oW hw 42 rfl) (oW hw 43 rfl) (oW hw 44 rfl) (oW hw 45 rfl) (own_back (W := 0) (rm_ok l Z a0 hw [] c3 TC.heap n0 ZC) hZ (oW hw 45 rfl) (oW hw 44 rfl) (by decide) (by decide)) (by decide) (g := (mkF m 349 #[.val (.int p1), .val (.int p2), .val (.int p3), .val (.int p4), .val (.int p5), .val (.int 4), .val (.int c0), .val (.int c1), .val (.int c2), .val (.int c3), .val (.ref b291), .unset] [(.int c3)])) rfl (by rw [hml]; rfl) (argsL := [(.int c3)]) (rest := []) (lenOf pd_17 rfl) rfl (by show 2 * 0 + _ ≤ _; exact Nat.le_of_eq rfl) (hb hby at_349) rfl ek2 (by decide) (by decide) (fun vk3 Tk3 Lk3 Xk3 hQk3 => ?_)
          obtain ⟨rfl, Mk3, ek3⟩ := hQk3
          by_cases hk3 : okc c3
          · rw [own_okv, if_pos hk3]
            show oG p e below _ Tk3 (mkF m 352 #[.val (.int p1), .val (.int p2), .val (.int p3), .val (.int p4), .val (.int p5), .val (.int 4), .val (.int c0), .val (.int c1), .val (.int c2), .val (.int c3), .val (.ref b291), .unset] [(.int 1)])
            refine oS (fun t k => XS.ifNo Xk3.here hx rfl (hb hby at_352) rfl ((if0 _ _).trans (feq (by decide : ¬ (1 : Int32) = 0)).1) k) ?_
            show oG p e below _ Tk3 (mkF m 355 #[.val (.int p1), .val (.int p2), .val (.int p3), .val (.int p4), .val (.int p5), .val (.int 4), .val (.int c0), .val (.int c1), .val (.int c2), .val (.int c3), .val (.ref b291), .unset] [])
            refine oS (fun t k => XS.iconst Xk3.here hx rfl (hb hby at_355) k) ?_
            refine oS (fun t k => XS.goto Xk3.here hx rfl (pc0 := 356) (pc' := 360) rfl (hb hby at_356) (by decide) (by decide) k) ?_
            show oG p e below _ Tk3 (mkF m 360 #[.val (.int p1), .val (.int p2), .val (.int p3), .val (.int p4), .val (.int p5), .val (.int 4), .val (.int c0), .val (.int c1), .val (.int c2), .val (.int c3), .val (.ref b291), .unset] [(.int 1)])
            refine oS (fun t k => XS.istore Xk3.here hx rfl (hb hby at_360) rfl (l' := #[.val (.int p1), .val (.int p2), .val (.int p3), .val (.int p4), .val (.int p5), .val (.int 4), .val (.int c0), .val (.int c1), .val (.int c2), .val (.int c3), .val (.ref b291), .val (.int 1)]) rfl k) ?_
            show oG p e below _ Tk3 (mkF m 362 #[.val (.int p1), .val (.int p2), .val (.int p3), .val (.int p4), .val (.int p5), .val (.int 4), .val (.int c0), .val (.int c1), .val (.int c2), .val (.int c3), .val (.ref b291), .val (.int 1)] [])
            refine oS (fun t k => XS.aload Xk3.here hx rfl (hb hby at_362) rfl rfl k) ?_
            show oG p e below _ Tk3 (mkF m 364 #[.val (.int p1), .val (.int p2), .val (.int p3), .val (.int p4), .val (.int p5), .val (.int 4), .val (.int c0), .val (.int c1), .val (.int c2), .val (.int c3), .val (.ref b291), .val (.int 1)] [(.ref b291)])
            refine own_callS Xk3 hx hZ (y := (⟨"com/example/loqix/loqix/TopicName", "isValid", "(Ljava/lang/String;)Z"⟩ : MethodName)) (W := 0) (kc := 0) (ks := 0) hown (oW hw 22 rfl) (oW hw 23 rfl) (oW hw 24 rfl) (oW hw 25 rfl) (own_back (W := 0) (rm_tn l Z a0 hw [] b291 S0 kb0 cd0 N20 vs0 ([c0, c1, c2, c3] : List Int32) CS FM TC.heap n0 ZC SE SV SCo SAr Scd (Nat.le_of_ble_eq_true rfl) hp (SC.ext OC.2) (SF.ext OC.2) hCS rFM (SA.ext OC.2) (SH.ext OC.2) (SL.ext OC.2)) hZ (oW hw 25 rfl) (oW hw 24 rfl) (by decide) (by decide)) (by decide) (g := (mkF m 364 #[.val (.int p1), .val (.int p2), .val (.int p3), .val (.int p4), .val (.int p5), .val (.int 4), .val (.int c0), .val (.int c1), .val (.int c2), .val (.int c3), .val (.ref b291), .val (.int 1)] [(.ref b291)])) rfl (by rw [hml]; rfl) (argsL := [(.ref b291)]) (rest := []) (lenOf pd_16 rfl) rfl (by show 2 * 0 + _ ≤ _; exact Nat.le_of_eq rfl) (hb hby at_364) rfl ek3 (by decide) (by decide) (fun vV TV LV XV hQV => ?_)
            obtain ⟨rfl, MV, eV⟩ := hQV
            rw [show own_val ([c0, c1, c2, c3] : List Int32) = 1 from own_vyes (Nat.le_of_ble_eq_true rfl) (Nat.le_of_ble_eq_true rfl) (by simp [hk0, hk1, hk2, hk3])]
            show oG p e below _ TV (mkF m 367 #[.val (.int p1), .val (.int p2), .val (.int p3), .val (.int p4), .val (.int p5), .val (.int 4), .val (.int c0), .val (.int c1), .val (.int c2), .val (.int c3), .val (.ref b291), .val (.int 1)] [(.int 1)])
            refine oS (fun t k => XS.iload XV.here hx rfl (hb hby at_367) rfl  k) ?_
            show oG p e below _ TV (mkF m 369 #[.val (.int p1), .val (.int p2), .val (.int p3), .val (.int p4), .val (.int p5), .val (.int 4), .val (.int c0), .val (.int c1), .val (.int c2), .val (.int c3), .val (.ref b291), .val (.int 1)] [(.int 1), (.int 1)])
            refine oS (fun t k => XS.icmpNo XV.here hx rfl (hb hby at_369) rfl (teq (rfl : (1 : Int32) = 1)).2 k) ?_
            show oG p e below _ TV (mkF m 372 #[.val (.int p1), .val (.int p2), .val (.int p3), .val (.int p4), .val (.int p5), .val (.int 4), .val (.int c0), .val (.int c1), .val (.int c2), .val (.int c3), .val (.ref b291), .val (.int 1)] [])
            refine oS (fun t k => XS.iconst XV.here hx rfl (hb hby at_372) k) ?_
            refine oS (fun t k => XS.goto XV.here hx rfl (pc0 := 373) (pc' := 377) rfl (hb hby at_373) (by decide) (by decide) k) ?_
            show oG p e below _ TV (mkF m 377 #[.val (.int p1), .val (.int p2), .val (.int p3), .val (.int p4), .val (.int p5), .val (.int 4), .val (.int c0), .val (.int c1), .val (.int c2), .val (.int c3), .val (.ref b291), .val (.int 1)] [(.int 1)])
            refine own_retHN (t := .boolean) XV KC eV hx hlk hret (by simp) (hb hby at_377) ?_ (by decide) (by decide)
            exact ⟨rfl, Fr.app (Fr.app (Fr.app (Fr.app (Fr.app NC Mk0) Mk1) Mk2) Mk3) MV⟩
          · rw [own_okv, if_neg hk3]
            show oG p e below _ Tk3 (mkF m 352 #[.val (.int p1), .val (.int p2), .val (.int p3), .val (.int p4), .val (.int p5), .val (.int 4), .val (.int c0), .val (.int c1), .val (.int c2), .val (.int c3), .val (.ref b291), .unset] [(.int 0)])
            refine oS (fun t k => XS.ifYes Xk3.here hx rfl (pc0 := 352) (pc' := 359) rfl (hb hby at_352) rfl ((if0 _ _).trans (teq (rfl : (0 : Int32) = 0)).1) (by decide) (by decide) k) ?_
            show oG p e below _ Tk3 (mkF m 359 #[.val (.int p1), .val (.int p2), .val (.int p3), .val (.int p4), .val (.int p5), .val (.int 4), .val (.int c0), .val (.int c1), .val (.int c2), .val (.int c3), .val (.ref b291), .unset] [])
            refine oS (fun t k => XS.iconst Xk3.here hx rfl (hb hby at_359) k) ?_
            refine oS (fun t k => XS.istore Xk3.here hx rfl (hb hby at_360) rfl (l' := #[.val (.int p1), .val (.int p2), .val (.int p3), .val (.int p4), .val (.int p5), .val (.int 4), .val (.int c0), .val (.int c1), .val (.int c2), .val (.int c3), .val (.ref b291), .val (.int 0)]) rfl k) ?_
            show oG p e below _ Tk3 (mkF m 362 #[.val (.int p1), .val (.int p2), .val (.int p3), .val (.int p4), .val (.int p5), .val (.int 4), .val (.int c0), .val (.int c1), .val (.int c2), .val (.int c3), .val (.ref b291), .val (.int 0)] [])
            refine oS (fun t k => XS.aload Xk3.here hx rfl (hb hby at_362) rfl rfl k) ?_
            show oG p e below _ Tk3 (mkF m 364 #[.val (.int p1), .val (.int p2), .val (.int p3), .val (.int p4), .val (.int p5), .val (.int 4), .val (.int c0), .val (.int c1), .val (.int c2), .val (.int c3), .val (.ref b291), .val (.int 0)] [(.ref b291)])
            refine own_callS Xk3 hx hZ (y := (⟨"com/example/loqix/loqix/TopicName", "isValid", "(Ljava/lang/String;)Z"⟩ : MethodName)) (W := 0) (kc := 0) (ks := 0) hown (oW hw 22 rfl) (oW hw 23 rfl) (oW hw 24 rfl) (oW hw 25 rfl) (own_back (W := 0) (rm_tn l Z a0 hw [] b291 S0 kb0 cd0 N20 vs0 ([c0, c1, c2, c3] : List Int32) CS FM TC.heap n0 ZC SE SV SCo SAr Scd (Nat.le_of_ble_eq_true rfl) hp (SC.ext OC.2) (SF.ext OC.2) hCS rFM (SA.ext OC.2) (SH.ext OC.2) (SL.ext OC.2)) hZ (oW hw 25 rfl) (oW hw 24 rfl) (by decide) (by decide)) (by decide) (g := (mkF m 364 #[.val (.int p1), .val (.int p2), .val (.int p3), .val (.int p4), .val (.int p5), .val (.int 4), .val (.int c0), .val (.int c1), .val (.int c2), .val (.int c3), .val (.ref b291), .val (.int 0)] [(.ref b291)])) rfl (by rw [hml]; rfl) (argsL := [(.ref b291)]) (rest := []) (lenOf pd_16 rfl) rfl (by show 2 * 0 + _ ≤ _; exact Nat.le_of_eq rfl) (hb hby at_364) rfl ek3 (by decide) (by decide) (fun vV TV LV XV hQV => ?_)
            obtain ⟨rfl, MV, eV⟩ := hQV
            rw [show own_val ([c0, c1, c2, c3] : List Int32) = 0 from own_vno (c := c3) (by simp) hk3]
            show oG p e below _ TV (mkF m 367 #[.val (.int p1), .val (.int p2), .val (.int p3), .val (.int p4), .val (.int p5), .val (.int 4), .val (.int c0), .val (.int c1), .val (.int c2), .val (.int c3), .val (.ref b291), .val (.int 0)] [(.int 0)])
            refine oS (fun t k => XS.iload XV.here hx rfl (hb hby at_367) rfl  k) ?_
            show oG p e below _ TV (mkF m 369 #[.val (.int p1), .val (.int p2), .val (.int p3), .val (.int p4), .val (.int p5), .val (.int 4), .val (.int c0), .val (.int c1), .val (.int c2), .val (.int c3), .val (.ref b291), .val (.int 0)] [(.int 0), (.int 0)])
            refine oS (fun t k => XS.icmpNo XV.here hx rfl (hb hby at_369) rfl (teq (rfl : (0 : Int32) = 0)).2 k) ?_
            show oG p e below _ TV (mkF m 372 #[.val (.int p1), .val (.int p2), .val (.int p3), .val (.int p4), .val (.int p5), .val (.int 4), .val (.int c0), .val (.int c1), .val (.int c2), .val (.int c3), .val (.ref b291), .val (.int 0)] [])
            refine oS (fun t k => XS.iconst XV.here hx rfl (hb hby at_372) k) ?_
            refine oS (fun t k => XS.goto XV.here hx rfl (pc0 := 373) (pc' := 377) rfl (hb hby at_373) (by decide) (by decide) k) ?_
            show oG p e below _ TV (mkF m 377 #[.val (.int p1), .val (.int p2), .val (.int p3), .val (.int p4), .val (.int p5), .val (.int 4), .val (.int c0), .val (.int c1), .val (.int c2), .val (.int c3), .val (.ref b291), .val (.int 0)] [(.int 1)])
            refine own_retHN (t := .boolean) XV KC eV hx hlk hret (by simp) (hb hby at_377) ?_ (by decide) (by decide)
            exact ⟨rfl, Fr.app (Fr.app (Fr.app (Fr.app (Fr.app NC Mk0) Mk1) Mk2) Mk3) MV⟩
        · rw [own_okv, if_neg hk2]
          show oG p e below _ Tk2 (mkF m 344 #[.val (.int p1), .val (.int p2), .val (.int p3), .val (.int p4), .val (.int p5), .val (.int 4), .val (.int c0), .val (.int c1), .val (.int c2), .val (.int c3), .val (.ref b291), .unset] [(.int 0)])
          refine oS (fun t k => XS.ifYes Xk2.here hx rfl (pc0 := 344) (pc' := 359) rfl (hb hby at_344) rfl ((if0 _ _).trans (teq (rfl : (0 : Int32) = 0)).1) (by decide) (by decide) k) ?_
          show oG p e below _ Tk2 (mkF m 359 #[.val (.int p1), .val (.int p2), .val (.int p3), .val (.int p4), .val (.int p5), .val (.int 4), .val (.int c0), .val (.int c1), .val (.int c2), .val (.int c3), .val (.ref b291), .unset] [])
          refine oS (fun t k => XS.iconst Xk2.here hx rfl (hb hby at_359) k) ?_
          refine oS (fun t k => XS.istore Xk2.here hx rfl (hb hby at_360) rfl (l' := #[.val (.int p1), .val (.int p2), .val (.int p3), .val (.int p4), .val (.int p5), .val (.int 4), .val (.int c0), .val (.int c1), .val (.int c2), .val (.int c3), .val (.ref b291), .val (.int 0)]) rfl k) ?_
          show oG p e below _ Tk2 (mkF m 362 #[.val (.int p1), .val (.int p2), .val (.int p3), .val (.int p4), .val (.int p5), .val (.int 4), .val (.int c0), .val (.int c1), .val (.int c2), .val (.int c3), .val (.ref b291), .val (.int 0)] [])
          refine oS (fun t k => XS.aload Xk2.here hx rfl (hb hby at_362) rfl rfl k) ?_
          show oG p e below _ Tk2 (mkF m 364 #[.val (.int p1), .val (.int p2), .val (.int p3), .val (.int p4), .val (.int p5), .val (.int 4), .val (.int c0), .val (.int c1), .val (.int c2), .val (.int c3), .val (.ref b291), .val (.int 0)] [(.ref b291)])
          refine own_callS Xk2 hx hZ (y := (⟨"com/example/loqix/loqix/TopicName", "isValid", "(Ljava/lang/String;)Z"⟩ : MethodName)) (W := 0) (kc := 0) (ks := 0) hown (oW hw 22 rfl) (oW hw 23 rfl) (oW hw 24 rfl) (oW hw 25 rfl) (own_back (W := 0) (rm_tn l Z a0 hw [] b291 S0 kb0 cd0 N20 vs0 ([c0, c1, c2, c3] : List Int32) CS FM TC.heap n0 ZC SE SV SCo SAr Scd (Nat.le_of_ble_eq_true rfl) hp (SC.ext OC.2) (SF.ext OC.2) hCS rFM (SA.ext OC.2) (SH.ext OC.2) (SL.ext OC.2)) hZ (oW hw 25 rfl) (oW hw 24 rfl) (by decide) (by decide)) (by decide) (g := (mkF m 364 #[.val (.int p1), .val (.int p2), .val (.int p3), .val (.int p4), .val (.int p5), .val (.int 4), .val (.int c0), .val (.int c1), .val (.int c2), .val (.int c3), .val (.ref b291), .val (.int 0)] [(.ref b291)])) rfl (by rw [hml]; rfl) (argsL := [(.ref b291)]) (rest := []) (lenOf pd_16 rfl) rfl (by show 2 * 0 + _ ≤ _; exact Nat.le_of_eq rfl) (hb hby at_364) rfl ek2 (by decide) (by decide) (fun vV TV LV XV hQV => ?_)
          obtain ⟨rfl, MV, eV⟩ := hQV
          rw [show own_val ([c0, c1, c2, c3] : List Int32) = 0 from own_vno (c := c2) (by simp) hk2]
          show oG p e below _ TV (mkF m 367 #[.val (.int p1), .val (.int p2), .val (.int p3), .val (.int p4), .val (.int p5), .val (.int 4), .val (.int c0), .val (.int c1), .val (.int c2), .val (.int c3), .val (.ref b291), .val (.int 0)] [(.int 0)])
          refine oS (fun t k => XS.iload XV.here hx rfl (hb hby at_367) rfl  k) ?_
          show oG p e below _ TV (mkF m 369 #[.val (.int p1), .val (.int p2), .val (.int p3), .val (.int p4), .val (.int p5), .val (.int 4), .val (.int c0), .val (.int c1), .val (.int c2), .val (.int c3), .val (.ref b291), .val (.int 0)] [(.int 0), (.int 0)])
          refine oS (fun t k => XS.icmpNo XV.here hx rfl (hb hby at_369) rfl (teq (rfl : (0 : Int32) = 0)).2 k) ?_
          show oG p e below _ TV (mkF m 372 #[.val (.int p1), .val (.int p2), .val (.int p3), .val (.int p4), .val (.int p5), .val (.int 4), .val (.int c0), .val (.int c1), .val (.int c2), .val (.int c3), .val (.ref b291), .val (.int 0)] [])
          refine oS (fun t k => XS.iconst XV.here hx rfl (hb hby at_372) k) ?_
          refine oS (fun t k => XS.goto XV.here hx rfl (pc0 := 373) (pc' := 377) rfl (hb hby at_373) (by decide) (by decide) k) ?_
          show oG p e below _ TV (mkF m 377 #[.val (.int p1), .val (.int p2), .val (.int p3), .val (.int p4), .val (.int p5), .val (.int 4), .val (.int c0), .val (.int c1), .val (.int c2), .val (.int c3), .val (.ref b291), .val (.int 0)] [(.int 1)])
          refine own_retHN (t := .boolean) XV KC eV hx hlk hret (by simp) (hb hby at_377) ?_ (by decide) (by decide)
          exact ⟨rfl, Fr.app (Fr.app (Fr.app (Fr.app NC Mk0) Mk1) Mk2) MV⟩
      · rw [own_okv, if_neg hk1]
        show oG p e below _ Tk1 (mkF m 336 #[.val (.int p1), .val (.int p2), .val (.int p3), .val (.int p4), .val (.int p5), .val (.int 4), .val (.int c0), .val (.int c1), .val (.int c2), .val (.int c3), .val (.ref b291), .unset] [(.int 0)])
        refine oS (fun t k => XS.ifYes Xk1.here hx rfl (pc0 := 336) (pc' := 359) rfl (hb hby at_336) rfl ((if0 _ _).trans (teq (rfl : (0 : Int32) = 0)).1) (by decide) (by decide) k) ?_
        show oG p e below _ Tk1 (mkF m 359 #[.val (.int p1), .val (.int p2), .val (.int p3), .val (.int p4), .val (.int p5), .val (.int 4), .val (.int c0), .val (.int c1), .val (.int c2), .val (.int c3), .val (.ref b291), .unset] [])
        refine oS (fun t k => XS.iconst Xk1.here hx rfl (hb hby at_359) k) ?_
        refine oS (fun t k => XS.istore Xk1.here hx rfl (hb hby at_360) rfl (l' := #[.val (.int p1), .val (.int p2), .val (.int p3), .val (.int p4), .val (.int p5), .val (.int 4), .val (.int c0), .val (.int c1), .val (.int c2), .val (.int c3), .val (.ref b291), .val (.int 0)]) rfl k) ?_
        show oG p e below _ Tk1 (mkF m 362 #[.val (.int p1), .val (.int p2), .val (.int p3), .val (.int p4), .val (.int p5), .val (.int 4), .val (.int c0), .val (.int c1), .val (.int c2), .val (.int c3), .val (.ref b291), .val (.int 0)] [])
        refine oS (fun t k => XS.aload Xk1.here hx rfl (hb hby at_362) rfl rfl k) ?_
        show oG p e below _ Tk1 (mkF m 364 #[.val (.int p1), .val (.int p2), .val (.int p3), .val (.int p4), .val (.int p5), .val (.int 4), .val (.int c0), .val (.int c1), .val (.int c2), .val (.int c3), .val (.ref b291), .val (.int 0)] [(.ref b291)])
        refine own_callS Xk1 hx hZ (y := (⟨"com/example/loqix/loqix/TopicName", "isValid", "(Ljava/lang/String;)Z"⟩ : MethodName)) (W := 0) (kc := 0) (ks := 0) hown (oW hw 22 rfl) (oW hw 23 rfl) (oW hw 24 rfl) (oW hw 25 rfl) (own_back (W := 0) (rm_tn l Z a0 hw [] b291 S0 kb0 cd0 N20 vs0 ([c0, c1, c2, c3] : List Int32) CS FM TC.heap n0 ZC SE SV SCo SAr Scd (Nat.le_of_ble_eq_true rfl) hp (SC.ext OC.2) (SF.ext OC.2) hCS rFM (SA.ext OC.2) (SH.ext OC.2) (SL.ext OC.2)) hZ (oW hw 25 rfl) (oW hw 24 rfl) (by decide) (by decide)) (by decide) (g := (mkF m 364 #[.val (.int p1), .val (.int p2), .val (.int p3), .val (.int p4), .val (.int p5), .val (.int 4), .val (.int c0), .val (.int c1), .val (.int c2), .val (.int c3), .val (.ref b291), .val (.int 0)] [(.ref b291)])) rfl (by rw [hml]; rfl) (argsL := [(.ref b291)]) (rest := []) (lenOf pd_16 rfl) rfl (by show 2 * 0 + _ ≤ _; exact Nat.le_of_eq rfl) (hb hby at_364) rfl ek1 (by decide) (by decide) (fun vV TV LV XV hQV => ?_)
        obtain ⟨rfl, MV, eV⟩ := hQV
        rw [show own_val ([c0, c1, c2, c3] : List Int32) = 0 from own_vno (c := c1) (by simp) hk1]
        show oG p e below _ TV (mkF m 367 #[.val (.int p1), .val (.int p2), .val (.int p3), .val (.int p4), .val (.int p5), .val (.int 4), .val (.int c0), .val (.int c1), .val (.int c2), .val (.int c3), .val (.ref b291), .val (.int 0)] [(.int 0)])
        refine oS (fun t k => XS.iload XV.here hx rfl (hb hby at_367) rfl  k) ?_
        show oG p e below _ TV (mkF m 369 #[.val (.int p1), .val (.int p2), .val (.int p3), .val (.int p4), .val (.int p5), .val (.int 4), .val (.int c0), .val (.int c1), .val (.int c2), .val (.int c3), .val (.ref b291), .val (.int 0)] [(.int 0), (.int 0)])
        refine oS (fun t k => XS.icmpNo XV.here hx rfl (hb hby at_369) rfl (teq (rfl : (0 : Int32) = 0)).2 k) ?_
        show oG p e below _ TV (mkF m 372 #[.val (.int p1), .val (.int p2), .val (.int p3), .val (.int p4), .val (.int p5), .val (.int 4), .val (.int c0), .val (.int c1), .val (.int c2), .val (.int c3), .val (.ref b291), .val (.int 0)] [])
        refine oS (fun t k => XS.iconst XV.here hx rfl (hb hby at_372) k) ?_
        refine oS (fun t k => XS.goto XV.here hx rfl (pc0 := 373) (pc' := 377) rfl (hb hby at_373) (by decide) (by decide) k) ?_
        show oG p e below _ TV (mkF m 377 #[.val (.int p1), .val (.int p2), .val (.int p3), .val (.int p4), .val (.int p5), .val (.int 4), .val (.int c0), .val (.int c1), .val (.int c2), .val (.int c3), .val (.ref b291), .val (.int 0)] [(.int 1)])
        refine own_retHN (t := .boolean) XV KC eV hx hlk hret (by simp) (hb hby at_377) ?_ (by decide) (by decide)
        exact ⟨rfl, Fr.app (Fr.app (Fr.app NC Mk0) Mk1) MV⟩
    · rw [own_okv, if_neg hk0]
      show oG p e below _ Tk0 (mkF m 328 #[.val (.int p1), .val (.int p2), .val (.int p3), .val (.int p4), .val (.int p5), .val (.int 4), .val (.int c0), .val (.int c1), .val (.int c2), .val (.int c3), .val (.ref b291), .unset] [(.int 0)])
      refine oS (fun t k => XS.ifYes Xk0.here hx rfl (pc0 := 328) (pc' := 359) rfl (hb hby at_328) rfl ((if0 _ _).trans (teq (rfl : (0 : Int32) = 0)).1) (by decide) (by decide) k) ?_
      show oG p e below _ Tk0 (mkF m 359 #[.val (.int p1), .val (.int p2), .val (.int p3), .val (.int p4), .val (.int p5), .val (.int 4), .val (.int c0), .val (.int c1), .val (.int c2), .val (.int c3), .val (.ref b291), .unset] [])
      refine oS (fun t k => XS.iconst Xk0.here hx rfl (hb hby at_359) k) ?_
      refine oS (fun t k => XS.istore Xk0.here hx rfl (hb hby at_360) rfl (l' := #[.val (.int p1), .val (.int p2), .val (.int p3), .val (.int p4), .val (.int p5), .val (.int 4), .val (.int c0), .val (.int c1), .val (.int c2), .val (.int c3), .val (.ref b291), .val (.int 0)]) rfl k) ?_
      show oG p e below _ Tk0 (mkF m 362 #[.val (.int p1), .val (.int p2), .val (.int p3), .val (.int p4), .val (.int p5), .val (.int 4), .val (.int c0), .val (.int c1), .val (.int c2), .val (.int c3), .val (.ref b291), .val (.int 0)] [])
      refine oS (fun t k => XS.aload Xk0.here hx rfl (hb hby at_362) rfl rfl k) ?_
      show oG p e below _ Tk0 (mkF m 364 #[.val (.int p1), .val (.int p2), .val (.int p3), .val (.int p4), .val (.int p5), .val (.int 4), .val (.int c0), .val (.int c1), .val (.int c2), .val (.int c3), .val (.ref b291), .val (.int 0)] [(.ref b291)])
      refine own_callS Xk0 hx hZ (y := (⟨"com/example/loqix/loqix/TopicName", "isValid", "(Ljava/lang/String;)Z"⟩ : MethodName)) (W := 0) (kc := 0) (ks := 0) hown (oW hw 22 rfl) (oW hw 23 rfl) (oW hw 24 rfl) (oW hw 25 rfl) (own_back (W := 0) (rm_tn l Z a0 hw [] b291 S0 kb0 cd0 N20 vs0 ([c0, c1, c2, c3] : List Int32) CS FM TC.heap n0 ZC SE SV SCo SAr Scd (Nat.le_of_ble_eq_true rfl) hp (SC.ext OC.2) (SF.ext OC.2) hCS rFM (SA.ext OC.2) (SH.ext OC.2) (SL.ext OC.2)) hZ (oW hw 25 rfl) (oW hw 24 rfl) (by decide) (by decide)) (by decide) (g := (mkF m 364 #[.val (.int p1), .val (.int p2), .val (.int p3), .val (.int p4), .val (.int p5), .val (.int 4), .val (.int c0), .val (.int c1), .val (.int c2), .val (.int c3), .val (.ref b291), .val (.int 0)] [(.ref b291)])) rfl (by rw [hml]; rfl) (argsL := [(.ref b291)]) (rest := []) (lenOf pd_16 rfl) rfl (by show 2 * 0 + _ ≤ _; exact Nat.le_of_eq rfl) (hb hby at_364) rfl ek0 (by decide) (by decide) (fun vV TV LV XV hQV => ?_)
      obtain ⟨rfl, MV, eV⟩ := hQV
      rw [show own_val ([c0, c1, c2, c3] : List Int32) = 0 from own_vno (c := c0) (by simp) hk0]
      show oG p e below _ TV (mkF m 367 #[.val (.int p1), .val (.int p2), .val (.int p3), .val (.int p4), .val (.int p5), .val (.int 4), .val (.int c0), .val (.int c1), .val (.int c2), .val (.int c3), .val (.ref b291), .val (.int 0)] [(.int 0)])
      refine oS (fun t k => XS.iload XV.here hx rfl (hb hby at_367) rfl  k) ?_
      show oG p e below _ TV (mkF m 369 #[.val (.int p1), .val (.int p2), .val (.int p3), .val (.int p4), .val (.int p5), .val (.int 4), .val (.int c0), .val (.int c1), .val (.int c2), .val (.int c3), .val (.ref b291), .val (.int 0)] [(.int 0), (.int 0)])
      refine oS (fun t k => XS.icmpNo XV.here hx rfl (hb hby at_369) rfl (teq (rfl : (0 : Int32) = 0)).2 k) ?_
      show oG p e below _ TV (mkF m 372 #[.val (.int p1), .val (.int p2), .val (.int p3), .val (.int p4), .val (.int p5), .val (.int 4), .val (.int c0), .val (.int c1), .val (.int c2), .val (.int c3), .val (.ref b291), .val (.int 0)] [])
      refine oS (fun t k => XS.iconst XV.here hx rfl (hb hby at_372) k) ?_
      refine oS (fun t k => XS.goto XV.here hx rfl (pc0 := 373) (pc' := 377) rfl (hb hby at_373) (by decide) (by decide) k) ?_
      show oG p e below _ TV (mkF m 377 #[.val (.int p1), .val (.int p2), .val (.int p3), .val (.int p4), .val (.int p5), .val (.int 4), .val (.int c0), .val (.int c1), .val (.int c2), .val (.int c3), .val (.ref b291), .val (.int 0)] [(.int 1)])
      refine own_retHN (t := .boolean) XV KC eV hx hlk hret (by simp) (hb hby at_377) ?_ (by decide) (by decide)
      exact ⟨rfl, Fr.app (Fr.app NC Mk0) MV⟩
  · rw [hq]
    show oG p e below _ s₁ (mkF m 23 #[.val (.int p1), .val (.int p2), .val (.int p3), .val (.int p4), .val (.int p5), .val (.int 5), .val (.int c0), .val (.int c1), .val (.int c2), .val (.int c3), .unset, .unset] [])
    refine oS (fun t k => XS.iload X0.here hx rfl (hb hby at_23) rfl  k) ?_
    refine oS (fun t k => XS.iconst X0.here hx rfl (hb hby at_25) k) ?_
    show oG p e below _ s₁ (mkF m 26 #[.val (.int p1), .val (.int p2), .val (.int p3), .val (.int p4), .val (.int p5), .val (.int 5), .val (.int c0), .val (.int c1), .val (.int c2), .val (.int c3), .unset, .unset] [(.int 5), (.int 5)])
    refine oS (fun t k => XS.icmpNo X0.here hx rfl (hb hby at_26) rfl (teq (rfl : (5 : Int32) = 5)).2 k) ?_
    show oG p e below _ s₁ (mkF m 29 #[.val (.int p1), .val (.int p2), .val (.int p3), .val (.int p4), .val (.int p5), .val (.int 5), .val (.int c0), .val (.int c1), .val (.int c2), .val (.int c3), .unset, .unset] [])
    refine oS (fun t k => XS.aconstNull X0.here hx rfl (hb hby at_29) k) ?_
    show oG p e below _ s₁ (mkF m 30 #[.val (.int p1), .val (.int p2), .val (.int p3), .val (.int p4), .val (.int p5), .val (.int 5), .val (.int c0), .val (.int c1), .val (.int c2), .val (.int c3), .unset, .unset] [.null])
    refine own_callS X0 hx hZ (y := (⟨"com/example/loqix/loqix/TopicName", "isValid", "(Ljava/lang/String;)Z"⟩ : MethodName)) (W := 0) (kc := 0) (ks := 0) hown (oW hw 22 rfl) (oW hw 23 rfl) (oW hw 24 rfl) (oW hw 25 rfl) (own_back (W := 0) (rm_tnN l Z a0 hw [] h0 n0 Z0) hZ (oW hw 25 rfl) (oW hw 24 rfl) (by decide) (by decide)) (by decide) (g := (mkF m 30 #[.val (.int p1), .val (.int p2), .val (.int p3), .val (.int p4), .val (.int p5), .val (.int 5), .val (.int c0), .val (.int c1), .val (.int c2), .val (.int c3), .unset, .unset] [.null])) rfl (by rw [hml]; rfl) (argsL := [.null]) (rest := []) (lenOf pd_16 rfl) rfl (by show 2 * 0 + _ ≤ _; exact Nat.le_of_eq rfl) (hb hby at_30) rfl e0 (by decide) (by decide) (fun v30 T30 L30 X30 hQ30 => ?_)
    obtain ⟨rfl, M30, e30⟩ := hQ30
    show oG p e below _ T30 (mkF m 33 #[.val (.int p1), .val (.int p2), .val (.int p3), .val (.int p4), .val (.int p5), .val (.int 5), .val (.int c0), .val (.int c1), .val (.int c2), .val (.int c3), .unset, .unset] [(.int 0)])
    refine oS (fun t k => XS.ifNo X30.here hx rfl (hb hby at_33) rfl ((if0 _ _).trans (teq (rfl : (0 : Int32) = 0)).2) k) ?_
    show oG p e below _ T30 (mkF m 36 #[.val (.int p1), .val (.int p2), .val (.int p3), .val (.int p4), .val (.int p5), .val (.int 5), .val (.int c0), .val (.int c1), .val (.int c2), .val (.int c3), .unset, .unset] [])
    refine oS (fun t k => XS.iconst X30.here hx rfl (hb hby at_36) k) ?_
    refine oS (fun t k => XS.goto X30.here hx rfl (pc0 := 37) (pc' := 41) rfl (hb hby at_37) (by decide) (by decide) k) ?_
    show oG p e below _ T30 (mkF m 41 #[.val (.int p1), .val (.int p2), .val (.int p3), .val (.int p4), .val (.int p5), .val (.int 5), .val (.int c0), .val (.int c1), .val (.int c2), .val (.int c3), .unset, .unset] [(.int 1)])
    refine own_retHN (t := .boolean) X30 K0 e30 hx hlk hret (by simp) (hb hby at_41) ?_ (by decide) (by decide)
    exact ⟨rfl, Fr.app N0 M30⟩
  · rw [hq]
    show oG p e below _ s₁ (mkF m 23 #[.val (.int p1), .val (.int p2), .val (.int p3), .val (.int p4), .val (.int p5), .val (.int 6), .val (.int c0), .val (.int c1), .val (.int c2), .val (.int c3), .unset, .unset] [])
    refine oS (fun t k => XS.iload X0.here hx rfl (hb hby at_23) rfl  k) ?_
    refine oS (fun t k => XS.iconst X0.here hx rfl (hb hby at_25) k) ?_
    show oG p e below _ s₁ (mkF m 26 #[.val (.int p1), .val (.int p2), .val (.int p3), .val (.int p4), .val (.int p5), .val (.int 6), .val (.int c0), .val (.int c1), .val (.int c2), .val (.int c3), .unset, .unset] [(.int 5), (.int 6)])
    refine oS (fun t k => XS.icmpYes X0.here hx rfl (pc0 := 26) (pc' := 42) rfl (hb hby at_26) rfl (feq (by decide : ¬ (6 : Int32) = 5)).2 (by decide) (by decide) k) ?_
    show oG p e below _ s₁ (mkF m 42 #[.val (.int p1), .val (.int p2), .val (.int p3), .val (.int p4), .val (.int p5), .val (.int 6), .val (.int c0), .val (.int c1), .val (.int c2), .val (.int c3), .unset, .unset] [])
    refine oS (fun t k => XS.iload X0.here hx rfl (hb hby at_42) rfl  k) ?_
    refine oS (fun t k => XS.bipush X0.here hx rfl (hb hby at_44) k) ?_
    show oG p e below _ s₁ (mkF m 46 #[.val (.int p1), .val (.int p2), .val (.int p3), .val (.int p4), .val (.int p5), .val (.int 6), .val (.int c0), .val (.int c1), .val (.int c2), .val (.int c3), .unset, .unset] [(.int 6), (.int 6)])
    refine oS (fun t k => XS.icmpYes X0.here hx rfl (pc0 := 46) (pc' := 56) rfl (hb hby at_46) rfl (teq (rfl : (6 : Int32) = 6)).1 (by decide) (by decide) k) ?_
    show oG p e below _ s₁ (mkF m 56 #[.val (.int p1), .val (.int p2), .val (.int p3), .val (.int p4), .val (.int p5), .val (.int 6), .val (.int c0), .val (.int c1), .val (.int c2), .val (.int c3), .unset, .unset] [])
    refine oS (fun t k => XS.iload X0.here hx rfl (hb hby at_56) rfl  k) ?_
    refine oS (fun t k => XS.bipush X0.here hx rfl (hb hby at_58) k) ?_
    show oG p e below _ s₁ (mkF m 60 #[.val (.int p1), .val (.int p2), .val (.int p3), .val (.int p4), .val (.int p5), .val (.int 6), .val (.int c0), .val (.int c1), .val (.int c2), .val (.int c3), .unset, .unset] [(.int 6), (.int 6)])
    refine oS (fun t k => XS.icmpNo X0.here hx rfl (hb hby at_60) rfl (teq (rfl : (6 : Int32) = 6)).2 k) ?_
    show oG p e below _ s₁ (mkF m 63 #[.val (.int p1), .val (.int p2), .val (.int p3), .val (.int p4), .val (.int p5), .val (.int 6), .val (.int c0), .val (.int c1), .val (.int c2), .val (.int c3), .unset, .unset] [])
    refine own_ldc X0 hx K0 (text := "abcdefghijklmnopqrstuvwxyzABCDEFGHIJKLMNOPQRSTUVWXYZ0123456789_-abcdefghijklmnopqrstuvwxyzABCDEFGHIJKLMNOPQRSTUVWXYZ0123456789_") hown (oW hw 109 rfl) wS e0 (by decide) (vs := [(.int 97), (.int 98), (.int 99), (.int 100), (.int 101), (.int 102), (.int 103), (.int 104), (.int 105), (.int 106), (.int 107), (.int 108), (.int 109), (.int 110), (.int 111), (.int 112), (.int 113), (.int 114), (.int 115), (.int 116), (.int 117), (.int 118), (.int 119), (.int 120), (.int 121), (.int 122), (.int 65), (.int 66), (.int 67), (.int 68), (.int 69), (.int 70), (.int 71), (.int 72), (.int 73), (.int 74), (.int 75), (.int 76), (.int 77), (.int 78), (.int 79), (.int 80), (.int 81), (.int 82), (.int 83), (.int 84), (.int 85), (.int 86), (.int 87), (.int 88), (.int 89), (.int 90), (.int 48), (.int 49), (.int 50), (.int 51), (.int 52), (.int 53), (.int 54), (.int 55), (.int 56), (.int 57), (.int 95), (.int 45), (.int 97), (.int 98), (.int 99), (.int 100), (.int 101), (.int 102), (.int 103), (.int 104), (.int 105), (.int 106), (.int 107), (.int 108), (.int 109), (.int 110), (.int 111), (.int 112), (.int 113), (.int 114), (.int 115), (.int 116), (.int 117), (.int 118), (.int 119), (.int 120), (.int 121), (.int 122), (.int 65), (.int 66), (.int 67), (.int 68), (.int 69), (.int 70), (.int 71), (.int 72), (.int 73), (.int 74), (.int 75), (.int 76), (.int 77), (.int 78), (.int 79), (.int 80), (.int 81), (.int 82), (.int 83), (.int 84), (.int 85), (.int 86), (.int 87), (.int 88), (.int 89), (.int 90), (.int 48), (.int 49), (.int 50), (.int 51), (.int 52), (.int 53), (.int 54), (.int 55), (.int 56), (.int 57), (.int 95)]) (z := (127 : Int32)) ⟨by decide, by decide⟩ (by decide) rfl (g := (mkF m 63 #[.val (.int p1), .val (.int p2), .val (.int p3), .val (.int p4), .val (.int p5), .val (.int 6), .val (.int c0), .val (.int c1), .val (.int c2), .val (.int c3), .unset, .unset] [])) rfl (hb hby at_63) (n := 508) (by decide) (by decide) (by decide) (by decide) (fun a63 T63 b63 kb63 X63 E63 K63 hown63 R63 LE63 LC63 LV63 LA63 SF63 => ?_)
    show oG p e below _ T63 (mkF m 65 #[.val (.int p1), .val (.int p2), .val (.int p3), .val (.int p4), .val (.int p5), .val (.int 6), .val (.int c0), .val (.int c1), .val (.int c2), .val (.int c3), .unset, .unset] [(.ref a63)])
    have O63 := O0.ext E63
    have Z63 : n0 ≤ T63.heap.size := Nat.le_trans Z0 E63.1
    refine oS (fun t k => XS.goto X63.here hx rfl (pc0 := 65) (pc' := 70) rfl (hb hby at_65) (by decide) (by decide) k) ?_
    show oG p e below _ T63 (mkF m 70 #[.val (.int p1), .val (.int p2), .val (.int p3), .val (.int p4), .val (.int p5), .val (.int 6), .val (.int c0), .val (.int c1), .val (.int c2), .val (.int c3), .unset, .unset] [(.ref a63)])
    refine oS (fun t k => XS.astore X63.here hx rfl (hb hby at_70) rfl rfl (l' := #[.val (.int p1), .val (.int p2), .val (.int p3), .val (.int p4), .val (.int p5), .val (.int 6), .val (.int c0), .val (.int c1), .val (.int c2), .val (.int c3), .val (.ref a63), .unset]) rfl k) ?_
    show oG p e below _ T63 (mkF m 72 #[.val (.int p1), .val (.int p2), .val (.int p3), .val (.int p4), .val (.int p5), .val (.int 6), .val (.int c0), .val (.int c1), .val (.int c2), .val (.int c3), .val (.ref a63), .unset] [])
    refine oS (fun t k => XS.aload X63.here hx rfl (hb hby at_72) rfl rfl k) ?_
    show oG p e below _ T63 (mkF m 74 #[.val (.int p1), .val (.int p2), .val (.int p3), .val (.int p4), .val (.int p5), .val (.int 6), .val (.int c0), .val (.int c1), .val (.int c2), .val (.int c3), .val (.ref a63), .unset] [(.ref a63)])
    refine own_callV X63 hx K63.1 (y := (⟨"java/lang/String", "length", "()I"⟩ : MethodName)) (W := 0) (Q := (fun v h L => v = some (.int (Int32.ofNat own_t127.length)) ∧ L = [] ∧ h = T63.heap)) (kc := 0) (ks := 0) hown63 (oW hw 79 rfl) (oW hw 47 rfl) (oW hw 49 rfl) (oW hw 48 rfl) (StrChars.Road.lenW (W := 0) (s := s.setVm T63.vm) K63.1 hln (kI := 4) (oW hw 1 rfl) LE63 LV63 LC63 LA63 own_c127 own_r127 (SC.ext O63.2) hCS (by decide) (by decide) (by decide)) (by decide) (b := a63) LE63 (g := (mkF m 74 #[.val (.int p1), .val (.int p2), .val (.int p3), .val (.int p4), .val (.int p5), .val (.int 6), .val (.int c0), .val (.int c1), .val (.int c2), .val (.int c3), .val (.ref a63), .unset] [(.ref a63)])) rfl (by rw [hml]; rfl) (argsL := []) (rest := []) (lenOf pd_13 rfl) rfl (by show 2 * 0 + _ ≤ _; exact Nat.le_of_eq rfl) (hb hby at_74) rfl rfl (by decide) (by decide) (fun vla Tla Lla Xla hQla => ?_)
    obtain ⟨rfl, rfl, ela⟩ := hQla
    show oG p e below _ Tla (mkF m 77 #[.val (.int p1), .val (.int p2), .val (.int p3), .val (.int p4), .val (.int p5), .val (.int 6), .val (.int c0), .val (.int c1), .val (.int c2), .val (.int c3), .val (.ref a63), .unset] [(.int 127)])
    refine oS (fun t k => XS.iconst Xla.here hx rfl (hb hby at_77) k) ?_
    show oG p e below _ Tla (mkF m 78 #[.val (.int p1), .val (.int p2), .val (.int p3), .val (.int p4), .val (.int p5), .val (.int 6), .val (.int c0), .val (.int c1), .val (.int c2), .val (.int c3), .val (.ref a63), .unset] [(.int 1), (.int 127)])
    refine oS (fun t k => XS.icmpNo Xla.here hx rfl (hb hby at_78) rfl (flt (by decide : ¬ (127 : Int32) < 1)).1 k) ?_
    show oG p e below _ Tla (mkF m 81 #[.val (.int p1), .val (.int p2), .val (.int p3), .val (.int p4), .val (.int p5), .val (.int 6), .val (.int c0), .val (.int c1), .val (.int c2), .val (.int c3), .val (.ref a63), .unset] [])
    refine oS (fun t k => XS.aload Xla.here hx rfl (hb hby at_81) rfl rfl k) ?_
    show oG p e below _ Tla (mkF m 83 #[.val (.int p1), .val (.int p2), .val (.int p3), .val (.int p4), .val (.int p5), .val (.int 6), .val (.int c0), .val (.int c1), .val (.int c2), .val (.int c3), .val (.ref a63), .unset] [(.ref a63)])
    refine own_callV Xla hx K63.1 (y := (⟨"java/lang/String", "length", "()I"⟩ : MethodName)) (W := 0) (Q := (fun v h L => v = some (.int (Int32.ofNat own_t127.length)) ∧ L = [] ∧ h = T63.heap)) (kc := 0) (ks := 0) hown63 (oW hw 79 rfl) (oW hw 47 rfl) (oW hw 49 rfl) (oW hw 48 rfl) (StrChars.Road.lenW (W := 0) (s := s.setVm T63.vm) K63.1 hln (kI := 4) (oW hw 1 rfl) LE63 LV63 LC63 LA63 own_c127 own_r127 (SC.ext O63.2) hCS (by decide) (by decide) (by decide)) (by decide) (b := a63) LE63 (g := (mkF m 83 #[.val (.int p1), .val (.int p2), .val (.int p3), .val (.int p4), .val (.int p5), .val (.int 6), .val (.int c0), .val (.int c1), .val (.int c2), .val (.int c3), .val (.ref a63), .unset] [(.ref a63)])) rfl (by rw [hml]; rfl) (argsL := []) (rest := []) (lenOf pd_13 rfl) rfl (by show 2 * 0 + _ ≤ _; exact Nat.le_of_eq rfl) (hb hby at_83) rfl ela (by decide) (by decide) (fun vlb Tlb Llb Xlb hQlb => ?_)
    obtain ⟨rfl, rfl, elb⟩ := hQlb
    show oG p e below _ Tlb (mkF m 86 #[.val (.int p1), .val (.int p2), .val (.int p3), .val (.int p4), .val (.int p5), .val (.int 6), .val (.int c0), .val (.int c1), .val (.int c2), .val (.int c3), .val (.ref a63), .unset] [(.int 127)])
    refine oS (fun t k => XS.bipush Xlb.here hx rfl (hb hby at_86) k) ?_
    show oG p e below _ Tlb (mkF m 88 #[.val (.int p1), .val (.int p2), .val (.int p3), .val (.int p4), .val (.int p5), .val (.int 6), .val (.int c0), .val (.int c1), .val (.int c2), .val (.int c3), .val (.ref a63), .unset] [(.int 127), (.int 127)])
    refine oS (fun t k => XS.icmpNo Xlb.here hx rfl (hb hby at_88) rfl (flt (by decide : ¬ (127 : Int32) < 127)).2.2.1 k) ?_
    show oG p e below _ Tlb (mkF m 91 #[.val (.int p1), .val (.int p2), .val (.int p3), .val (.int p4), .val (.int p5), .val (.int 6), .val (.int c0), .val (.int c1), .val (.int c2), .val (.int c3), .val (.ref a63), .unset] [])
    refine oS (fun t k => XS.iconst Xlb.here hx rfl (hb hby at_91) k) ?_
    refine oS (fun t k => XS.goto Xlb.here hx rfl (pc0 := 92) (pc' := 96) rfl (hb hby at_92) (by decide) (by decide) k) ?_
    show oG p e below _ Tlb (mkF m 96 #[.val (.int p1), .val (.int p2), .val (.int p3), .val (.int p4), .val (.int p5), .val (.int 6), .val (.int c0), .val (.int c1), .val (.int c2), .val (.int c3), .val (.ref a63), .unset] [(.int 1)])
    refine oS (fun t k => XS.istore Xlb.here hx rfl (hb hby at_96) rfl (l' := #[.val (.int p1), .val (.int p2), .val (.int p3), .val (.int p4), .val (.int p5), .val (.int 6), .val (.int c0), .val (.int c1), .val (.int c2), .val (.int c3), .val (.ref a63), .val (.int 1)]) rfl k) ?_
    show oG p e below _ Tlb (mkF m 98 #[.val (.int p1), .val (.int p2), .val (.int p3), .val (.int p4), .val (.int p5), .val (.int 6), .val (.int c0), .val (.int c1), .val (.int c2), .val (.int c3), .val (.ref a63), .val (.int 1)] [])
    refine oS (fun t k => XS.aload Xlb.here hx rfl (hb hby at_98) rfl rfl k) ?_
    show oG p e below _ Tlb (mkF m 100 #[.val (.int p1), .val (.int p2), .val (.int p3), .val (.int p4), .val (.int p5), .val (.int 6), .val (.int c0), .val (.int c1), .val (.int c2), .val (.int c3), .val (.ref a63), .val (.int 1)] [(.ref a63)])
    refine own_callS Xlb hx K63.1 (y := (⟨"com/example/loqix/loqix/TopicName", "isValid", "(Ljava/lang/String;)Z"⟩ : MethodName)) (W := 0) (kc := 0) (ks := 0) hown63 (oW hw 22 rfl) (oW hw 23 rfl) (oW hw 24 rfl) (oW hw 25 rfl) (own_back (W := 0) (rm_tn l Z a0 hw [] a63 b63 kb63 0 (127 : Int32) _ own_t127 CS FM T63.heap n0 Z63 LE63 LV63 LC63 LA63 own_c127 (by decide) own_r127 (SC.ext O63.2) (SF.ext O63.2) hCS rFM (SA.ext O63.2) (SH.ext O63.2) (SL.ext O63.2)) K63.1 (oW hw 25 rfl) (oW hw 24 rfl) (by decide) (by decide)) (by decide) (g := (mkF m 100 #[.val (.int p1), .val (.int p2), .val (.int p3), .val (.int p4), .val (.int p5), .val (.int 6), .val (.int c0), .val (.int c1), .val (.int c2), .val (.int c3), .val (.ref a63), .val (.int 1)] [(.ref a63)])) rfl (by rw [hml]; rfl) (argsL := [(.ref a63)]) (rest := []) (lenOf pd_16 rfl) rfl (by show 2 * 0 + _ ≤ _; exact Nat.le_of_eq rfl) (hb hby at_100) rfl elb (by decide) (by decide) (fun v100 T100 L100 X100 hQ100 => ?_)
    obtain ⟨rfl, M100, e100⟩ := hQ100
    rw [own_v127]
    show oG p e below _ T100 (mkF m 103 #[.val (.int p1), .val (.int p2), .val (.int p3), .val (.int p4), .val (.int p5), .val (.int 6), .val (.int c0), .val (.int c1), .val (.int c2), .val (.int c3), .val (.ref a63), .val (.int 1)] [(.int 1)])
    refine oS (fun t k => XS.iload X100.here hx rfl (hb hby at_103) rfl  k) ?_
    show oG p e below _ T100 (mkF m 105 #[.val (.int p1), .val (.int p2), .val (.int p3), .val (.int p4), .val (.int p5), .val (.int 6), .val (.int c0), .val (.int c1), .val (.int c2), .val (.int c3), .val (.ref a63), .val (.int 1)] [(.int 1), (.int 1)])
    refine oS (fun t k => XS.icmpNo X100.here hx rfl (hb hby at_105) rfl (teq (rfl : (1 : Int32) = 1)).2 k) ?_
    show oG p e below _ T100 (mkF m 108 #[.val (.int p1), .val (.int p2), .val (.int p3), .val (.int p4), .val (.int p5), .val (.int 6), .val (.int c0), .val (.int c1), .val (.int c2), .val (.int c3), .val (.ref a63), .val (.int 1)] [])
    refine oS (fun t k => XS.iconst X100.here hx rfl (hb hby at_108) k) ?_
    refine oS (fun t k => XS.goto X100.here hx rfl (pc0 := 109) (pc' := 113) rfl (hb hby at_109) (by decide) (by decide) k) ?_
    show oG p e below _ T100 (mkF m 113 #[.val (.int p1), .val (.int p2), .val (.int p3), .val (.int p4), .val (.int p5), .val (.int 6), .val (.int c0), .val (.int c1), .val (.int c2), .val (.int c3), .val (.ref a63), .val (.int 1)] [(.int 1)])
    refine own_retHN (t := .boolean) X100 K63 e100 hx hlk hret (by simp) (hb hby at_113) ?_ (by decide) (by decide)
    exact ⟨rfl, Fr.app (Fr.app (Fr.app N0 (Fr.nil n0)) (Fr.nil n0)) M100⟩
  · rw [hq]
    show oG p e below _ s₁ (mkF m 23 #[.val (.int p1), .val (.int p2), .val (.int p3), .val (.int p4), .val (.int p5), .val (.int 7), .val (.int c0), .val (.int c1), .val (.int c2), .val (.int c3), .unset, .unset] [])
    refine oS (fun t k => XS.iload X0.here hx rfl (hb hby at_23) rfl  k) ?_
    refine oS (fun t k => XS.iconst X0.here hx rfl (hb hby at_25) k) ?_
    show oG p e below _ s₁ (mkF m 26 #[.val (.int p1), .val (.int p2), .val (.int p3), .val (.int p4), .val (.int p5), .val (.int 7), .val (.int c0), .val (.int c1), .val (.int c2), .val (.int c3), .unset, .unset] [(.int 5), (.int 7)])
    refine oS (fun t k => XS.icmpYes X0.here hx rfl (pc0 := 26) (pc' := 42) rfl (hb hby at_26) rfl (feq (by decide : ¬ (7 : Int32) = 5)).2 (by decide) (by decide) k) ?_
    show oG p e below _ s₁ (mkF m 42 #[.val (.int p1), .val (.int p2), .val (.int p3), .val (.int p4), .val (.int p5), .val (.int 7), .val (.int c0), .val (.int c1), .val (.int c2), .val (.int c3), .unset, .unset] [])
    refine oS (fun t k => XS.iload X0.here hx rfl (hb hby at_42) rfl  k) ?_
    refine oS (fun t k => XS.bipush X0.here hx rfl (hb hby at_44) k) ?_
    show oG p e below _ s₁ (mkF m 46 #[.val (.int p1), .val (.int p2), .val (.int p3), .val (.int p4), .val (.int p5), .val (.int 7), .val (.int c0), .val (.int c1), .val (.int c2), .val (.int c3), .unset, .unset] [(.int 6), (.int 7)])
    refine oS (fun t k => XS.icmpNo X0.here hx rfl (hb hby at_46) rfl (feq (by decide : ¬ (7 : Int32) = 6)).1 k) ?_
    show oG p e below _ s₁ (mkF m 49 #[.val (.int p1), .val (.int p2), .val (.int p3), .val (.int p4), .val (.int p5), .val (.int 7), .val (.int c0), .val (.int c1), .val (.int c2), .val (.int c3), .unset, .unset] [])
    refine oS (fun t k => XS.iload X0.here hx rfl (hb hby at_49) rfl  k) ?_
    refine oS (fun t k => XS.bipush X0.here hx rfl (hb hby at_51) k) ?_
    show oG p e below _ s₁ (mkF m 53 #[.val (.int p1), .val (.int p2), .val (.int p3), .val (.int p4), .val (.int p5), .val (.int 7), .val (.int c0), .val (.int c1), .val (.int c2), .val (.int c3), .unset, .unset] [(.int 7), (.int 7)])
    refine oS (fun t k => XS.icmpNo X0.here hx rfl (hb hby at_53) rfl (teq (rfl : (7 : Int32) = 7)).2 k) ?_
    show oG p e below _ s₁ (mkF m 56 #[.val (.int p1), .val (.int p2), .val (.int p3), .val (.int p4), .val (.int p5), .val (.int 7), .val (.int c0), .val (.int c1), .val (.int c2), .val (.int c3), .unset, .unset] [])
    refine oS (fun t k => XS.iload X0.here hx rfl (hb hby at_56) rfl  k) ?_
    refine oS (fun t k => XS.bipush X0.here hx rfl (hb hby at_58) k) ?_
    show oG p e below _ s₁ (mkF m 60 #[.val (.int p1), .val (.int p2), .val (.int p3), .val (.int p4), .val (.int p5), .val (.int 7), .val (.int c0), .val (.int c1), .val (.int c2), .val (.int c3), .unset, .unset] [(.int 6), (.int 7)])
    refine oS (fun t k => XS.icmpYes X0.here hx rfl (pc0 := 60) (pc' := 68) rfl (hb hby at_60) rfl (feq (by decide : ¬ (7 : Int32) = 6)).2 (by decide) (by decide) k) ?_
    show oG p e below _ s₁ (mkF m 68 #[.val (.int p1), .val (.int p2), .val (.int p3), .val (.int p4), .val (.int p5), .val (.int 7), .val (.int c0), .val (.int c1), .val (.int c2), .val (.int c3), .unset, .unset] [])
    refine own_ldc X0 hx K0 (text := "abcdefghijklmnopqrstuvwxyzABCDEFGHIJKLMNOPQRSTUVWXYZ0123456789_-abcdefghijklmnopqrstuvwxyzABCDEFGHIJKLMNOPQRSTUVWXYZ0123456789_-") hown (oW hw 78 rfl) wS e0 (by decide) (vs := [(.int 97), (.int 98), (.int 99), (.int 100), (.int 101), (.int 102), (.int 103), (.int 104), (.int 105), (.int 106), (.int 107), (.int 108), (.int 109), (.int 110), (.int 111), (.int 112), (.int 113), (.int 114), (.int 115), (.int 116), (.int 117), (.int 118), (.int 119), (.int 120), (.int 121), (.int 122), (.int 65), (.int 66), (.int 67), (.int 68), (.int 69), (.int 70), (.int 71), (.int 72), (.int 73), (.int 74), (.int 75), (.int 76), (.int 77), (.int 78), (.int 79), (.int 80), (.int 81), (.int 82), (.int 83), (.int 84), (.int 85), (.int 86), (.int 87), (.int 88), (.int 89), (.int 90), (.int 48), (.int 49), (.int 50), (.int 51), (.int 52), (.int 53), (.int 54), (.int 55), (.int 56), (.int 57), (.int 95), (.int 45), (.int 97), (.int 98), (.int 99), (.int 100), (.int 101), (.int 102), (.int 103), (.int 104), (.int 105), (.int 106), (.int 107), (.int 108), (.int 109), (.int 110), (.int 111), (.int 112), (.int 113), (.int 114), (.int 115), (.int 116), (.int 117), (.int 118), (.int 119), (.int 120), (.int 121), (.int 122), (.int 65), (.int 66), (.int 67), (.int 68), (.int 69), (.int 70), (.int 71), (.int 72), (.int 73), (.int 74), (.int 75), (.int 76), (.int 77), (.int 78), (.int 79), (.int 80), (.int 81), (.int 82), (.int 83), (.int 84), (.int 85), (.int 86), (.int 87), (.int 88), (.int 89), (.int 90), (.int 48), (.int 49), (.int 50), (.int 51), (.int 52), (.int 53), (.int 54), (.int 55), (.int 56), (.int 57), (.int 95), (.int 45)]) (z := (128 : Int32)) ⟨by decide, by decide⟩ (by decide) rfl (g := (mkF m 68 #[.val (.int p1), .val (.int p2), .val (.int p3), .val (.int p4), .val (.int p5), .val (.int 7), .val (.int c0), .val (.int c1), .val (.int c2), .val (.int c3), .unset, .unset] [])) rfl (hb hby at_68) (n := 512) (by decide) (by decide) (by decide) (by decide) (fun a68 T68 b68 kb68 X68 E68 K68 hown68 R68 LE68 LC68 LV68 LA68 SF68 => ?_)
    show oG p e below _ T68 (mkF m 70 #[.val (.int p1), .val (.int p2), .val (.int p3), .val (.int p4), .val (.int p5), .val (.int 7), .val (.int c0), .val (.int c1), .val (.int c2), .val (.int c3), .unset, .unset] [(.ref a68)])
    have O68 := O0.ext E68
    have Z68 : n0 ≤ T68.heap.size := Nat.le_trans Z0 E68.1
    refine oS (fun t k => XS.astore X68.here hx rfl (hb hby at_70) rfl rfl (l' := #[.val (.int p1), .val (.int p2), .val (.int p3), .val (.int p4), .val (.int p5), .val (.int 7), .val (.int c0), .val (.int c1), .val (.int c2), .val (.int c3), .val (.ref a68), .unset]) rfl k) ?_
    show oG p e below _ T68 (mkF m 72 #[.val (.int p1), .val (.int p2), .val (.int p3), .val (.int p4), .val (.int p5), .val (.int 7), .val (.int c0), .val (.int c1), .val (.int c2), .val (.int c3), .val (.ref a68), .unset] [])
    refine oS (fun t k => XS.aload X68.here hx rfl (hb hby at_72) rfl rfl k) ?_
    show oG p e below _ T68 (mkF m 74 #[.val (.int p1), .val (.int p2), .val (.int p3), .val (.int p4), .val (.int p5), .val (.int 7), .val (.int c0), .val (.int c1), .val (.int c2), .val (.int c3), .val (.ref a68), .unset] [(.ref a68)])
    refine own_callV X68 hx K68.1 (y := (⟨"java/lang/String", "length", "()I"⟩ : MethodName)) (W := 0) (Q := (fun v h L => v = some (.int (Int32.ofNat own_t128.length)) ∧ L = [] ∧ h = T68.heap)) (kc := 0) (ks := 0) hown68 (oW hw 79 rfl) (oW hw 47 rfl) (oW hw 49 rfl) (oW hw 48 rfl) (StrChars.Road.lenW (W := 0) (s := s.setVm T68.vm) K68.1 hln (kI := 4) (oW hw 1 rfl) LE68 LV68 LC68 LA68 own_c128 own_r128 (SC.ext O68.2) hCS (by decide) (by decide) (by decide)) (by decide) (b := a68) LE68 (g := (mkF m 74 #[.val (.int p1), .val (.int p2), .val (.int p3), .val (.int p4), .val (.int p5), .val (.int 7), .val (.int c0), .val (.int c1), .val (.int c2), .val (.int c3), .val (.ref a68), .unset] [(.ref a68)])) rfl (by rw [hml]; rfl) (argsL := []) (rest := []) (lenOf pd_13 rfl) rfl (by show 2 * 0 + _ ≤ _; exact Nat.le_of_eq rfl) (hb hby at_74) rfl rfl (by decide) (by decide) (fun vla Tla Lla Xla hQla => ?_)
    obtain ⟨rfl, rfl, ela⟩ := hQla
    show oG p e below _ Tla (mkF m 77 #[.val (.int p1), .val (.int p2), .val (.int p3), .val (.int p4), .val (.int p5), .val (.int 7), .val (.int c0), .val (.int c1), .val (.int c2), .val (.int c3), .val (.ref a68), .unset] [(.int 128)])
    refine oS (fun t k => XS.iconst Xla.here hx rfl (hb hby at_77) k) ?_
    show oG p e below _ Tla (mkF m 78 #[.val (.int p1), .val (.int p2), .val (.int p3), .val (.int p4), .val (.int p5), .val (.int 7), .val (.int c0), .val (.int c1), .val (.int c2), .val (.int c3), .val (.ref a68), .unset] [(.int 1), (.int 128)])
    refine oS (fun t k => XS.icmpNo Xla.here hx rfl (hb hby at_78) rfl (flt (by decide : ¬ (128 : Int32) < 1)).1 k) ?_
    show oG p e below _ Tla (mkF m 81 #[.val (.int p1), .val (.int p2), .val (.int p3), .val (.int p4), .val (.int p5), .val (.int 7), .val (.int c0), .val (.int c1), .val (.int c2), .val (.int c3), .val (.ref a68), .unset] [])
    refine oS (fun t k => XS.aload Xla.here hx rfl (hb hby at_81) rfl rfl k) ?_
    show oG p e below _ Tla (mkF m 83 #[.val (.int p1), .val (.int p2), .val (.int p3), .val (.int p4), .val (.int p5), .val (.int 7), .val (.int c0), .val (.int c1), .val (.int c2), .val (.int c3), .val (.ref a68), .unset] [(.ref a68)])
    refine own_callV Xla hx K68.1 (y := (⟨"java/lang/String", "length", "()I"⟩ : MethodName)) (W := 0) (Q := (fun v h L => v = some (.int (Int32.ofNat own_t128.length)) ∧ L = [] ∧ h = T68.heap)) (kc := 0) (ks := 0) hown68 (oW hw 79 rfl) (oW hw 47 rfl) (oW hw 49 rfl) (oW hw 48 rfl) (StrChars.Road.lenW (W := 0) (s := s.setVm T68.vm) K68.1 hln (kI := 4) (oW hw 1 rfl) LE68 LV68 LC68 LA68 own_c128 own_r128 (SC.ext O68.2) hCS (by decide) (by decide) (by decide)) (by decide) (b := a68) LE68 (g := (mkF m 83 #[.val (.int p1), .val (.int p2), .val (.int p3), .val (.int p4), .val (.int p5), .val (.int 7), .val (.int c0), .val (.int c1), .val (.int c2), .val (.int c3), .val (.ref a68), .unset] [(.ref a68)])) rfl (by rw [hml]; rfl) (argsL := []) (rest := []) (lenOf pd_13 rfl) rfl (by show 2 * 0 + _ ≤ _; exact Nat.le_of_eq rfl) (hb hby at_83) rfl ela (by decide) (by decide) (fun vlb Tlb Llb Xlb hQlb => ?_)
    obtain ⟨rfl, rfl, elb⟩ := hQlb
    show oG p e below _ Tlb (mkF m 86 #[.val (.int p1), .val (.int p2), .val (.int p3), .val (.int p4), .val (.int p5), .val (.int 7), .val (.int c0), .val (.int c1), .val (.int c2), .val (.int c3), .val (.ref a68), .unset] [(.int 128)])
    refine oS (fun t k => XS.bipush Xlb.here hx rfl (hb hby at_86) k) ?_
    show oG p e below _ Tlb (mkF m 88 #[.val (.int p1), .val (.int p2), .val (.int p3), .val (.int p4), .val (.int p5), .val (.int 7), .val (.int c0), .val (.int c1), .val (.int c2), .val (.int c3), .val (.ref a68), .unset] [(.int 127), (.int 128)])
    refine oS (fun t k => XS.icmpYes Xlb.here hx rfl (pc0 := 88) (pc' := 95) rfl (hb hby at_88) rfl (tlt (by decide : (127 : Int32) < 128)).2.2.1 (by decide) (by decide) k) ?_
    show oG p e below _ Tlb (mkF m 95 #[.val (.int p1), .val (.int p2), .val (.int p3), .val (.int p4), .val (.int p5), .val (.int 7), .val (.int c0), .val (.int c1), .val (.int c2), .val (.int c3), .val (.ref a68), .unset] [])
    refine oS (fun t k => XS.iconst Xlb.here hx rfl (hb hby at_95) k) ?_
    refine oS (fun t k => XS.istore Xlb.here hx rfl (hb hby at_96) rfl (l' := #[.val (.int p1), .val (.int p2), .val (.int p3), .val (.int p4), .val (.int p5), .val (.int 7), .val (.int c0), .val (.int c1), .val (.int c2), .val (.int c3), .val (.ref a68), .val (.int 0)]) rfl k) ?_
    show oG p e below _ Tlb (mkF m 98 #[.val (.int p1), .val (.int p2), .val (.int p3), .val (.int p4), .val (.int p5), .val (.int 7), .val (.int c0), .val (.int c1), .val (.int c2), .val (.int c3), .val (.ref a68), .val (.int 0)] [])
    refine oS (fun t k => XS.aload Xlb.here hx rfl (hb hby at_98) rfl rfl k) ?_
    show oG p e below _ Tlb (mkF m 100 #[.val (.int p1), .val (.int p2), .val (.int p3), .val (.int p4), .val (.int p5), .val (.int 7), .val (.int c0), .val (.int c1), .val (.int c2), .val (.int c3), .val (.ref a68), .val (.int 0)] [(.ref a68)])
    refine own_callS Xlb hx K68.1 (y := (⟨"com/example/loqix/loqix/TopicName", "isValid", "(Ljava/lang/String;)Z"⟩ : MethodName)) (W := 0) (kc := 0) (ks := 0) hown68 (oW hw 22 rfl) (oW hw 23 rfl) (oW hw 24 rfl) (oW hw 25 rfl) (own_back (W := 0) (rm_tn l Z a0 hw [] a68 b68 kb68 0 (128 : Int32) _ own_t128 CS FM T68.heap n0 Z68 LE68 LV68 LC68 LA68 own_c128 (by decide) own_r128 (SC.ext O68.2) (SF.ext O68.2) hCS rFM (SA.ext O68.2) (SH.ext O68.2) (SL.ext O68.2)) K68.1 (oW hw 25 rfl) (oW hw 24 rfl) (by decide) (by decide)) (by decide) (g := (mkF m 100 #[.val (.int p1), .val (.int p2), .val (.int p3), .val (.int p4), .val (.int p5), .val (.int 7), .val (.int c0), .val (.int c1), .val (.int c2), .val (.int c3), .val (.ref a68), .val (.int 0)] [(.ref a68)])) rfl (by rw [hml]; rfl) (argsL := [(.ref a68)]) (rest := []) (lenOf pd_16 rfl) rfl (by show 2 * 0 + _ ≤ _; exact Nat.le_of_eq rfl) (hb hby at_100) rfl elb (by decide) (by decide) (fun v100 T100 L100 X100 hQ100 => ?_)
    obtain ⟨rfl, M100, e100⟩ := hQ100
    rw [own_v128]
    show oG p e below _ T100 (mkF m 103 #[.val (.int p1), .val (.int p2), .val (.int p3), .val (.int p4), .val (.int p5), .val (.int 7), .val (.int c0), .val (.int c1), .val (.int c2), .val (.int c3), .val (.ref a68), .val (.int 0)] [(.int 0)])
    refine oS (fun t k => XS.iload X100.here hx rfl (hb hby at_103) rfl  k) ?_
    show oG p e below _ T100 (mkF m 105 #[.val (.int p1), .val (.int p2), .val (.int p3), .val (.int p4), .val (.int p5), .val (.int 7), .val (.int c0), .val (.int c1), .val (.int c2), .val (.int c3), .val (.ref a68), .val (.int 0)] [(.int 0), (.int 0)])
    refine oS (fun t k => XS.icmpNo X100.here hx rfl (hb hby at_105) rfl (teq (rfl : (0 : Int32) = 0)).2 k) ?_
    show oG p e below _ T100 (mkF m 108 #[.val (.int p1), .val (.int p2), .val (.int p3), .val (.int p4), .val (.int p5), .val (.int 7), .val (.int c0), .val (.int c1), .val (.int c2), .val (.int c3), .val (.ref a68), .val (.int 0)] [])
    refine oS (fun t k => XS.iconst X100.here hx rfl (hb hby at_108) k) ?_
    refine oS (fun t k => XS.goto X100.here hx rfl (pc0 := 109) (pc' := 113) rfl (hb hby at_109) (by decide) (by decide) k) ?_
    show oG p e below _ T100 (mkF m 113 #[.val (.int p1), .val (.int p2), .val (.int p3), .val (.int p4), .val (.int p5), .val (.int 7), .val (.int c0), .val (.int c1), .val (.int c2), .val (.int c3), .val (.ref a68), .val (.int 0)] [(.int 1)])
    refine own_retHN (t := .boolean) X100 K68 e100 hx hlk hret (by simp) (hb hby at_113) ?_ (by decide) (by decide)
    exact ⟨rfl, Fr.app (Fr.app (Fr.app N0 (Fr.nil n0)) (Fr.nil n0)) M100⟩
theorem own_EW {Z : State} {a0 : Array Value} (hw : ∀ d ∈ tables_1, d.before a0 Z = true) : EW Z a0 consts_1 :=
  EW.cons (oW hw 109 rfl) (by decide +kernel) (EW.cons (oW hw 78 rfl) (by decide +kernel) (EW.cons (oW hw 14 rfl) (by decide +kernel) EW.nil))
set_option maxRecDepth 65536 in
set_option maxHeartbeats 40000000 in
theorem comes_1 {Post : Tables → Env → Array Value → State → Outcome → State → Prop} (hpost : ∀ tb e args s v u, (limb_1_1.after args s (.returned v) u = true ∧ limb_1_2.after args s (.returned v) u = true ∧ True) → ReturnedEndW s (.returned v) u (Jvm.fieldLocs frame_1_writes args s ++ Jvm.arrayLocs frame_1_arrays args s ++ Jvm.staticLocs frame_1_statics s) 24 3200 → Post tb e args s (.returned v) u) :
    ArmFor flags0 classFile x code maxLocals ret World_1 tables_1 room_1 Calls_1 rest_1 Pre_1 Post := by
  intro l hfl _ _ p e ha hc hk s m args below hf hA hF happ hP
  obtain ⟨hcalls, hrest, hpre⟩ := hP
  obtain ⟨-, -, -, hnamed, -, -, -, hat⟩ := (Spec.applies_iff hf).mp happ
  obtain ⟨hg, hn⟩ := and_e (Cond.before_iff.mp (show (Jvm.Cond.and given_1 narrow_1).before args s = true from hpre))
  obtain ⟨gc, hg⟩ := and_e hg
  obtain ⟨q0, hg⟩ := and_e hg
  obtain ⟨q1, hg⟩ := and_e hg
  obtain ⟨q2, hg⟩ := and_e hg
  obtain ⟨q3, hg⟩ := and_e hg
  have q4 := hg
  obtain ⟨w0, w1, w2, w3, w4, rfl⟩ : ∃ w0 w1 w2 w3 w4 : Value, args = #[w0, w1, w2, w3, w4] := by
    have hs : args.size = 5 := by simpa [Cond.value, given_1] using gc
    obtain ⟨L⟩ := args
    match L, hs with
    | [w0, w1, w2, w3, w4], _ => exact ⟨w0, w1, w2, w3, w4, rfl⟩
  have hw := fun d (hd : d ∈ tables_1) => atoms_spec (ws := Jvm.Cond.code x code maxLocals ret :: tables_1) hat d (List.mem_cons_of_mem _ hd)
  have hfit : Fit s := fun {y c} hc i hi => by
    obtain ⟨ha, rfl⟩ := Array.getElem?_eq_some_iff.mp hc
    have q := List.all_eq_true.mp ((Array.all_eq_true_iff_forall_mem.mp hF) _ (Array.getElem_mem ha)) i (List.mem_range.mpr hi)
    simpa [Array.getElem?_eq_getElem hi] using q
  obtain ⟨i0, ei0⟩ := is_v q0
  obtain rfl : w0 = (.int i0) := Option.some.inj ei0
  obtain ⟨i1, ei1⟩ := is_v q1
  obtain rfl : w1 = (.int i1) := Option.some.inj ei1
  obtain ⟨i2, ei2⟩ := is_v q2
  obtain rfl : w2 = (.int i2) := Option.some.inj ei2
  obtain ⟨i3, ei3⟩ := is_v q3
  obtain rfl : w3 = (.int i3) := Option.some.inj ei3
  obtain ⟨i4, ei4⟩ := is_v q4
  obtain rfl : w4 = (.int i4) := Option.some.inj ei4
  obtain ⟨hsets, hown0⟩ := atoms_of _ (rest_1_c_eq ▸ (show rest_1_c.before _ s = true from hrest))
  have hr0 := Cond.before_iff.mp hown0
  have nCS := not_v (Cond.before_iff.mp (hsets _ (List.mem_of_getElem? (i := 2) rfl)))
  obtain ⟨iCS, eCS⟩ := is_v (Cond.before_iff.mp (hsets _ (List.mem_of_getElem? (i := 1) rfl)))
  have SCS : Sta s s.heap "java/lang/String" "COMPACT_STRINGS" "Z" (.int iCS) := Sta.start eCS (Or.inl (hsets _ (List.mem_of_getElem? (i := 0) rfl)))
  have cCS : ¬ (iCS = (0 : Int32)) := gotF (Cond.eq_ints eCS (Term.int_eval (0))) nCS
  obtain ⟨vFM, eFM, rFM⟩ := isR_v (Cond.before_iff.mp (hsets _ (List.mem_of_getElem? (i := 8) rfl)))
  have SFM : Sta s s.heap "jdk/internal/util/Preconditions" "SIOOBE_FORMATTER" "Ljava/util/function/BiFunction;" vFM := Sta.start eFM (Or.inl (hsets _ (List.mem_of_getElem? (i := 7) rfl)))
  have wS : ∀ a ∈ Bundle.stringAtoms, a.before _ s = true := fun d hd => hw d ((by decide +kernel : ∀ d ∈ Bundle.stringAtoms, d ∈ tables_1) d hd)
  have hEW := own_EW hw
  have SA : Sta s s.heap "java/lang/StringUTF16" "$assertionsDisabled" "Z" (.int 1) := Sta.start (Cond.eq_int (hsets _ (List.mem_of_getElem? (i := 12) rfl)) rfl) (Or.inl (hsets _ (List.mem_of_getElem? (i := 11) rfl)))
  have SH : Sta s s.heap "java/lang/StringUTF16" "HI_BYTE_SHIFT" "I" (.int 0) := Sta.start (Cond.eq_int (hsets _ (List.mem_of_getElem? (i := 15) rfl)) rfl) (Or.inl (hsets _ (List.mem_of_getElem? (i := 14) rfl)))
  have SL : Sta s s.heap "java/lang/StringUTF16" "LO_BYTE_SHIFT" "I" (.int 8) := Sta.start (Cond.eq_int (hsets _ (List.mem_of_getElem? (i := 18) rfl)) rfl) (Or.inl (hsets _ (List.mem_of_getElem? (i := 17) rfl)))
  have hCH : CHv s consts_1 s.vm s.heap := CHv.start hEW (fun p hp => hcalls.1 p hp) (hsets _ (List.mem_of_getElem? (i := 2) rfl)) (oW hw 15 rfl) (oW hw 1 rfl)
  obtain ⟨n, o, h1, h2, h3, _, L, rfl, ⟨rfl, N⟩, -, hq⟩ := rm0 l s _ hw tables_1 i0 i1 i2 i3 i4 iCS vFM s.heap s.heap.size (Nat.le_refl _) hEW wS (Old.start s) SCS SFM cCS rFM SA SH SL p e ha hc hk s m _ below hf ((Spec.applies_iff_loose hf).mp happ).1 ⟨rfl, State.Warmed39.refl s, rfl, hCH, trivial⟩ trivial
  refine ⟨n, _, h1, h2, h3, hpost _ _ _ _ _ _ ⟨Cond.after_iff.mpr rfl, Cond.after_iff.mpr (eq_i res_at (Term.int_eval (1)) rfl), trivial⟩ ⟨hq.1, hq.2.1, hq.2.2.1, (hq.2.2.2.sift fun y hy => Or.inr (N y hy)).mono (by decide) (by decide)⟩⟩
theorem main_1_1 : Claimed_1_1 := comes_1 fun _ _ _ _ _ _ h hF => ⟨h.1, hF⟩
theorem main_1_2 : Claimed_1_2 := comes_1 fun _ _ _ _ _ _ h hF => ⟨h.2.1, hF⟩
end Jvm.Pilot.@@N@@
namespace Jvm.Pilot.@@N@@
open Jvm Jvm.ClassFile Sem Op Lib Jvm.Free Jvm.Stand Jvm.Pilot.@@N@@.Jvm.D
/-! MADE BY PROGRAM (witnessworld.py) out of the Statement's table words and the real class files: 20 classes; the members and pool entries that the words name. The judged class is class 1, her method 2. -/
namespace start1
open Jvm.ClassFile
def u (s : String) : CpInfo := .utf8 (stringToUtf16 s)
/-- a pool by its gaps: so many unusable entries, then the entry; so many at the end -/
def gap : Nat → List CpInfo → List CpInfo
  | 0, r => r
  | n + 1, r => .unusable :: gap n r
def poolList (es : List (Nat × CpInfo)) (last : Nat) : List CpInfo := es.foldr (fun e r => gap e.1 (e.2 :: r)) (gap last [])
def pool (es : List (Nat × CpInfo)) (last : Nat) : Array CpInfo := ⟨poolList es last⟩
def fileOf (pool : Array CpInfo) (this : Nat) (attrs : Array Attribute := #[]) (ms : Array MethodInfo := #[]) (fl : Nat := 33) (sup : Nat := 0) (ifs : Array Nat := #[]) (fds : Array FieldInfo := #[]) : ClassFile where
  minorVersion := 0
  majorVersion := 65
  constantPool := pool
  accessFlags := fl
  thisClass := this
  superClass := sup
  interfaces := ifs
  fields := fds
  methods := ms
  attributes := attrs
def plain (name : String) (sup : Option ClassId) : Class where
  name := name
  kind := .ordinary
  loader := none
  accessFlags := 33
  super := sup
  interfaces := #[]
  cf := none
  fields := #[]
  methods := #[]
  instanceTypes := #[]
  staticTypes := #[]
  resolved := #[]
  callSites := []
  init := .initialized
  statics := none
  mirror := none

def pool0 : Array CpInfo := pool [(5, u "<init>"), (0, u "()V"), (1, .class_ 10), (1, u "java/lang/Object")] 113

def k0c0 : Code := { maxStack := 0, maxLocals := 1, code := object_method_1_code, exceptionTable := #[], attributes := #[] }
def k0m0 : Method := { name := "<init>", desc := "()V", sig := { parameters := [], returnType := none }, accessFlags := 1, code := some k0c0 }
/-- java/lang/Object -/
def k0 : Class := { plain "java/lang/Object" none with
  accessFlags := 33
  interfaces := #[]
  cf := some (fileOf pool0 8 #[] #[{ accessFlags := 1, nameIndex := 5, descriptorIndex := 6, attributes := #[] }] 33 0 #[] #[])
  fields := #[]
  methods := #[k0m0]
  instanceTypes := #[]
  staticTypes := #[]
  resolved := Array.replicate 124 none
  statics := none }

def pool1 : Array CpInfo := pool [(2, .class_ 4), (1, u "java/lang/Object"), (0, u "<init>"), (0, u "()V"), (0, .methodref 8 9), (0, .class_ 10), (0, .nameAndType 11 12), (0, u "com/example/loqix/loqix/TopicName"), (0, u "isValid"), (0, u "(Ljava/lang/String;)Z"), (0, .string 14), (0, u "abcdefghijklmnopqrstuvwxyzABCDEFGHIJKLMNOPQRSTUVWXYZ0123456789_-abcdefghijklmnopqrstuvwxyzABCDEFGHIJKLMNOPQRSTUVWXYZ0123456789_"), (0, .string 16), (0, u "abcdefghijklmnopqrstuvwxyzABCDEFGHIJKLMNOPQRSTUVWXYZ0123456789_-abcdefghijklmnopqrstuvwxyzABCDEFGHIJKLMNOPQRSTUVWXYZ0123456789_-"), (0, .methodref 18 19), (0, .class_ 20), (0, .nameAndType 21 22), (0, u "java/lang/String"), (0, u "length"), (0, u "()I"), (0, .methodref 18 24), (0, .nameAndType 5 25), (0, u "([C)V"), (0, .methodref 27 28), (0, .class_ 29), (0, .nameAndType 30 31), (0, u "com/example/loqix/loqix/TopicNameIsValidPinLaw"), (0, u "ok"), (0, u "(C)Z"), (3, u "law"), (0, u "(IIIII)Z")] 2

def k1m0 : Method := { name := "<init>", desc := "()V", sig := { parameters := [], returnType := none }, accessFlags := 1, code := none }
def k1c1 : Code := { maxStack := 2, maxLocals := 1, code := method_2_code, exceptionTable := #[], attributes := #[] }
def k1m1 : Method := { name := "ok", desc := "(C)Z", sig := { parameters := [.char], returnType := some .boolean }, accessFlags := 10, code := some k1c1 }
def k1c2 : Code := { maxStack := 6, maxLocals := 12, code := code, exceptionTable := #[], attributes := #[] }
def k1m2 : Method := { name := "law", desc := "(IIIII)Z", sig := { parameters := [.int, .int, .int, .int, .int], returnType := some .boolean }, accessFlags := 9, code := some k1c2 }
/-- com/example/loqix/loqix/TopicNameIsValidPinLaw -/
def k1 : Class := { plain "com/example/loqix/loqix/TopicNameIsValidPinLaw" (some 0) with
  accessFlags := 49
  interfaces := #[]
  cf := some (fileOf pool1 27 #[] #[{ accessFlags := 1, nameIndex := 5, descriptorIndex := 6, attributes := #[] }, { accessFlags := 10, nameIndex := 30, descriptorIndex := 31, attributes := #[] }, { accessFlags := 9, nameIndex := 35, descriptorIndex := 36, attributes := #[] }] 49 2 #[] #[])
  fields := #[]
  methods := #[k1m0, k1m1, k1m2]
  instanceTypes := #[]
  staticTypes := #[]
  resolved := Array.replicate 39 none
  statics := none }

def pool2 : Array CpInfo := pool [(1, .class_ 2), (0, u "java/io/Serializable"), (0, .class_ 4), (0, u "java/lang/Object")] 2

/-- java/io/Serializable -/
def k2 : Class := { plain "java/io/Serializable" (some 0) with
  accessFlags := 1537
  interfaces := #[]
  cf := some (fileOf pool2 1 #[] #[] 1537 3 #[] #[])
  fields := #[]
  methods := #[]
  instanceTypes := #[]
  staticTypes := #[]
  resolved := Array.replicate 7 none
  statics := none }

def pool3 : Array CpInfo := pool [(1, .class_ 2), (0, u "java/lang/Comparable"), (0, .class_ 4), (0, u "java/lang/Object")] 7

/-- java/lang/Comparable -/
def k3 : Class := { plain "java/lang/Comparable" (some 0) with
  accessFlags := 1537
  interfaces := #[]
  cf := some (fileOf pool3 1 #[] #[] 1537 3 #[] #[])
  fields := #[]
  methods := #[]
  instanceTypes := #[]
  staticTypes := #[]
  resolved := Array.replicate 12 none
  statics := none }

def pool4 : Array CpInfo := pool [(2, .class_ 4), (1, u "java/lang/CharSequence"), (42, .class_ 48), (0, u "java/lang/CharSequence$1CodePointIterator"), (10, .class_ 60), (0, u "java/lang/CharSequence$1CharIterator"), (5, .class_ 67), (0, u "java/lang/Object")] 63

/-- java/lang/CharSequence -/
def k4 : Class := { plain "java/lang/CharSequence" (some 0) with
  accessFlags := 1537
  interfaces := #[]
  cf := some (fileOf pool4 2 #[.nestMembers #[47, 59]] #[] 1537 66 #[] #[])
  fields := #[]
  methods := #[]
  instanceTypes := #[]
  staticTypes := #[]
  resolved := Array.replicate 131 none
  statics := none }

def pool5 : Array CpInfo := pool [(1, .class_ 2), (0, u "java/lang/constant/Constable"), (0, .class_ 4), (0, u "java/lang/Object")] 6

/-- java/lang/constant/Constable -/
def k5 : Class := { plain "java/lang/constant/Constable" (some 0) with
  accessFlags := 1537
  interfaces := #[]
  cf := some (fileOf pool5 1 #[] #[] 1537 3 #[] #[])
  fields := #[]
  methods := #[]
  instanceTypes := #[]
  staticTypes := #[]
  resolved := Array.replicate 11 none
  statics := none }

def pool6 : Array CpInfo := pool [(1, .class_ 2), (0, u "java/lang/constant/ConstantDesc"), (0, .class_ 4), (0, u "java/lang/Object")] 32

/-- java/lang/constant/ConstantDesc -/
def k6 : Class := { plain "java/lang/constant/ConstantDesc" (some 0) with
  accessFlags := 1537
  interfaces := #[]
  cf := some (fileOf pool6 1 #[] #[] 1537 3 #[] #[])
  fields := #[]
  methods := #[]
  instanceTypes := #[]
  staticTypes := #[]
  resolved := Array.replicate 37 none
  statics := none }

def pool7 : Array CpInfo := pool [(1, .methodref 2 3), (0, .class_ 4), (0, .nameAndType 5 6), (0, u "java/lang/Object"), (0, u "<init>"), (0, u "()V"), (0, .string 8), (0, u ""), (0, .fieldref 10 11), (0, .class_ 12), (0, .nameAndType 13 14), (0, u "java/lang/String"), (0, u "value"), (0, u "[B"), (0, .fieldref 10 16), (0, .nameAndType 17 18), (0, u "coder"), (0, u "B"), (2, u "hash"), (0, u "I"), (2, u "hashIsZero"), (0, u "Z"), (0, .methodref 10 28), (0, .nameAndType 5 29), (0, u "([CIILjava/lang/Void;)V"), (8, .fieldref 10 39), (0, .nameAndType 40 26), (0, u "COMPACT_STRINGS"), (1, .class_ 44), (1, u "java/lang/StringUTF16"), (0, u "compress"), (1, .methodref 42 48), (0, .nameAndType 49 50), (0, u "coderFromArrayLen"), (0, u "([BI)B"), (56, .class_ 109), (1, u "java/lang/StringLatin1"), (32, u "()Z"), (34, .methodref 42 178), (0, .nameAndType 45 179), (0, u "([CII)[B"), (154, u "()I"), (0, .methodref 10 336), (0, .nameAndType 17 337), (0, u "()B"), (25, u "([BI)C"), (27, u "(II)V"), (35, u "(I)C"), (64, .methodref 10 493), (0, .nameAndType 494 142), (0, u "isLatin1"), (0, .methodref 107 496), (0, .nameAndType 497 363), (0, u "charAt"), (0, .methodref 42 496), (2, u "checkIndex"), (5, u "length"), (67, .class_ 576), (0, u "java/lang/CharSequence"), (22, u "CASE_INSENSITIVE_ORDER"), (0, u "Ljava/util/Comparator;"), (91, u "isEmpty"), (317, u "([C)V"), (42, .fieldref 1054 1055), (0, .class_ 1056), (0, .nameAndType 1057 1058), (0, u "jdk/internal/util/Preconditions"), (0, u "SIOOBE_FORMATTER"), (0, u "Ljava/util/function/BiFunction;"), (0, .methodref 1054 1060), (0, .nameAndType 501 1061), (0, u "(IILjava/util/function/BiFunction;)I"), (39, u "serialPersistentFields"), (0, u "[Ljava/io/ObjectStreamField;"), (0, .class_ 1104), (0, u "java/lang/String$CaseInsensitiveComparator"), (1, .class_ 1107), (0, u "java/io/Serializable"), (0, .class_ 1109), (0, u "java/lang/Comparable"), (0, .class_ 1111), (0, u "java/lang/constant/Constable"), (0, .class_ 1113), (0, u "java/lang/constant/ConstantDesc"), (2, u "serialVersionUID"), (0, u "J"), (3, u "REPL"), (0, u "C"), (2, u "LATIN1"), (1, u "UTF16")] 323

def k7m0 : Method := { name := "<init>", desc := "()V", sig := { parameters := [], returnType := none }, accessFlags := 1, code := none }
def k7c1 : Code := { maxStack := 5, maxLocals := 2, code := jdk_42_method_3_code, exceptionTable := #[], attributes := #[] }
def k7m1 : Method := { name := "<init>", desc := "([C)V", sig := { parameters := [(.array .char)], returnType := none }, accessFlags := 1, code := some k7c1 }
def k7c2 : Code := { maxStack := 2, maxLocals := 1, code := jdk_42_method_54_code, exceptionTable := #[], attributes := #[] }
def k7m2 : Method := { name := "length", desc := "()I", sig := { parameters := [], returnType := some .int }, accessFlags := 1, code := some k7c2 }
def k7c3 : Code := { maxStack := 1, maxLocals := 1, code := jdk_42_method_55_code, exceptionTable := #[], attributes := #[] }
def k7m3 : Method := { name := "isEmpty", desc := "()Z", sig := { parameters := [], returnType := some .boolean }, accessFlags := 1, code := some k7c3 }
def k7c4 : Code := { maxStack := 2, maxLocals := 2, code := jdk_42_method_56_code, exceptionTable := #[], attributes := #[] }
def k7m4 : Method := { name := "charAt", desc := "(I)C", sig := { parameters := [.int], returnType := some .char }, accessFlags := 1, code := some k7c4 }
def k7c5 : Code := { maxStack := 4, maxLocals := 6, code := jdk_42_method_149_code, exceptionTable := #[], attributes := #[] }
def k7m5 : Method := { name := "<init>", desc := "([CIILjava/lang/Void;)V", sig := { parameters := [(.array .char), .int, .int, (.object "java/lang/Void")], returnType := none }, accessFlags := 2, code := some k7c5 }
def k7c6 : Code := { maxStack := 1, maxLocals := 1, code := jdk_42_method_152_code, exceptionTable := #[], attributes := #[] }
def k7m6 : Method := { name := "coder", desc := "()B", sig := { parameters := [], returnType := some .byte }, accessFlags := 0, code := some k7c6 }
def k7c7 : Code := { maxStack := 1, maxLocals := 1, code := jdk_42_method_154_code, exceptionTable := #[], attributes := #[] }
def k7m7 : Method := { name := "isLatin1", desc := "()Z", sig := { parameters := [], returnType := some .boolean }, accessFlags := 0, code := some k7c7 }
def k7c8 : Code := { maxStack := 3, maxLocals := 2, code := jdk_42_method_155_code, exceptionTable := #[], attributes := #[] }
def k7m8 : Method := { name := "checkIndex", desc := "(II)V", sig := { parameters := [.int, .int], returnType := none }, accessFlags := 8, code := some k7c8 }
/-- java/lang/String -/
def k7 : Class := { plain "java/lang/String" (some 0) with
  accessFlags := 49
  interfaces := #[2, 3, 4, 5, 6]
  cf := some (fileOf pool7 10 #[.nestMembers #[1103]] #[{ accessFlags := 1, nameIndex := 5, descriptorIndex := 6, attributes := #[] }, { accessFlags := 1, nameIndex := 5, descriptorIndex := 1010, attributes := #[] }, { accessFlags := 1, nameIndex := 507, descriptorIndex := 334, attributes := #[] }, { accessFlags := 1, nameIndex := 692, descriptorIndex := 142, attributes := #[] }, { accessFlags := 1, nameIndex := 497, descriptorIndex := 427, attributes := #[] }, { accessFlags := 2, nameIndex := 5, descriptorIndex := 29, attributes := #[] }, { accessFlags := 0, nameIndex := 17, descriptorIndex := 337, attributes := #[] }, { accessFlags := 0, nameIndex := 494, descriptorIndex := 142, attributes := #[] }, { accessFlags := 8, nameIndex := 501, descriptorIndex := 391, attributes := #[] }] 49 2 #[1106, 1108, 575, 1110, 1112] #[{ accessFlags := 18, nameIndex := 13, descriptorIndex := 14, attributes := #[] }, { accessFlags := 18, nameIndex := 17, descriptorIndex := 18, attributes := #[] }, { accessFlags := 2, nameIndex := 21, descriptorIndex := 22, attributes := #[] }, { accessFlags := 2, nameIndex := 25, descriptorIndex := 26, attributes := #[] }, { accessFlags := 26, nameIndex := 1116, descriptorIndex := 1117, attributes := #[] }, { accessFlags := 24, nameIndex := 40, descriptorIndex := 26, attributes := #[] }, { accessFlags := 26, nameIndex := 1101, descriptorIndex := 1102, attributes := #[] }, { accessFlags := 26, nameIndex := 1121, descriptorIndex := 1122, attributes := #[] }, { accessFlags := 25, nameIndex := 599, descriptorIndex := 600, attributes := #[] }, { accessFlags := 24, nameIndex := 1125, descriptorIndex := 18, attributes := #[] }, { accessFlags := 24, nameIndex := 1127, descriptorIndex := 18, attributes := #[] }])
  fields := #[{ name := "value", type := (.array .byte), accessFlags := 18, slot := 0, constantValue := 0 }, { name := "coder", type := .byte, accessFlags := 18, slot := 1, constantValue := 0 }, { name := "hash", type := .int, accessFlags := 2, slot := 2, constantValue := 0 }, { name := "hashIsZero", type := .boolean, accessFlags := 2, slot := 3, constantValue := 0 }, { name := "serialVersionUID", type := .long, accessFlags := 26, slot := 0, constantValue := 0 }, { name := "COMPACT_STRINGS", type := .boolean, accessFlags := 24, slot := 1, constantValue := 0 }, { name := "serialPersistentFields", type := (.array (.object "java/io/ObjectStreamField")), accessFlags := 26, slot := 2, constantValue := 0 }, { name := "REPL", type := .char, accessFlags := 26, slot := 3, constantValue := 0 }, { name := "CASE_INSENSITIVE_ORDER", type := (.object "java/util/Comparator"), accessFlags := 25, slot := 4, constantValue := 0 }, { name := "LATIN1", type := .byte, accessFlags := 24, slot := 5, constantValue := 0 }, { name := "UTF16", type := .byte, accessFlags := 24, slot := 6, constantValue := 0 }]
  methods := #[k7m0, k7m1, k7m2, k7m3, k7m4, k7m5, k7m6, k7m7, k7m8]
  instanceTypes := #[(.array .byte), .byte, .int, .boolean]
  staticTypes := #[.long, .boolean, (.array (.object "java/io/ObjectStreamField")), .char, (.object "java/util/Comparator"), .byte, .byte]
  resolved := Array.replicate 1451 none
  statics := some 0 }

def pool8 : Array CpInfo := pool [(1, .class_ 2), (0, u "com/example/loqix/loqix/TopicName"), (1, .class_ 6), (1, u "java/lang/Object"), (0, u "<init>"), (0, u "()V"), (0, .methodref 10 11), (0, .class_ 12), (0, .nameAndType 13 14), (0, u "java/lang/String"), (0, u "isEmpty"), (0, u "()Z"), (0, .methodref 10 16), (0, .nameAndType 17 18), (0, u "length"), (0, u "()I"), (0, .methodref 10 20), (0, .nameAndType 21 22), (0, u "charAt"), (0, u "(I)C"), (2, u "isValid"), (0, u "(Ljava/lang/String;)Z"), (14, u "MAX_LENGTH"), (0, u "I"), (2, u "RULE"), (0, u "Ljava/lang/String;")] 23

def k8m0 : Method := { name := "<init>", desc := "()V", sig := { parameters := [], returnType := none }, accessFlags := 2, code := none }
def k8c1 : Code := { maxStack := 2, maxLocals := 4, code := prog_22_method_2_code, exceptionTable := #[], attributes := #[] }
def k8m1 : Method := { name := "isValid", desc := "(Ljava/lang/String;)Z", sig := { parameters := [(.object "java/lang/String")], returnType := some .boolean }, accessFlags := 9, code := some k8c1 }
/-- com/example/loqix/loqix/TopicName -/
def k8 : Class := { plain "com/example/loqix/loqix/TopicName" (some 0) with
  accessFlags := 49
  interfaces := #[]
  cf := some (fileOf pool8 1 #[] #[{ accessFlags := 2, nameIndex := 7, descriptorIndex := 8, attributes := #[] }, { accessFlags := 9, nameIndex := 25, descriptorIndex := 26, attributes := #[] }] 49 4 #[] #[{ accessFlags := 25, nameIndex := 41, descriptorIndex := 42, attributes := #[] }, { accessFlags := 24, nameIndex := 45, descriptorIndex := 46, attributes := #[] }])
  fields := #[{ name := "MAX_LENGTH", type := .int, accessFlags := 25, slot := 0, constantValue := 0 }, { name := "RULE", type := (.object "java/lang/String"), accessFlags := 24, slot := 1, constantValue := 0 }]
  methods := #[k8m0, k8m1]
  instanceTypes := #[]
  staticTypes := #[.int, (.object "java/lang/String")]
  resolved := Array.replicate 70 none
  statics := none }

def pool9 : Array CpInfo := pool [(3, .class_ 4), (0, u "java/lang/String"), (1, .class_ 8), (1, u "java/lang/Object"), (0, u "<init>"), (0, u "()V"), (0, .methodref 12 13), (0, .class_ 14), (0, .nameAndType 15 16), (0, u "java/lang/StringUTF16"), (0, u "newBytesLength"), (0, u "(I)I"), (3, .integer 1073741823), (23, .fieldref 12 45), (0, .nameAndType 46 47), (0, u "$assertionsDisabled"), (0, u "Z"), (0, .methodref 12 49), (0, .nameAndType 50 51), (0, u "length"), (0, u "([B)I"), (7, .fieldref 12 60), (0, .nameAndType 61 62), (0, u "HI_BYTE_SHIFT"), (0, u "I"), (0, .fieldref 12 64), (0, .nameAndType 65 62), (0, u "LO_BYTE_SHIFT"), (1, .methodref 12 68), (0, .nameAndType 69 70), (0, u "checkIndex"), (0, u "(I[B)V"), (0, .methodref 12 72), (0, .nameAndType 73 74), (0, u "getChar"), (0, u "([BI)C"), (32, .methodref 12 108), (0, .nameAndType 109 110), (0, u "newBytesFor"), (0, u "(I)[B"), (0, .methodref 12 112), (0, .nameAndType 113 114), (0, u "putChar"), (0, u "([BII)V"), (0, .methodref 12 116), (0, .nameAndType 117 118), (0, u "compress"), (0, u "([CI[BII)I"), (0, .methodref 12 120), (0, .nameAndType 121 122), (0, u "toBytes"), (0, u "([CII)[B"), (138, u "coderFromArrayLen"), (0, u "([BI)B"), (106, .class_ 371), (1, u "java/lang/StringUTF16$LinesSpliterator"), (20, u "charAt"), (21, .methodref 3 415), (0, .nameAndType 69 416), (0, u "(II)V"), (13, u "MAX_LENGTH"), (196, .class_ 628), (0, u "java/lang/StringUTF16$CodePointsSpliterator"), (0, .class_ 630), (0, u "java/lang/StringUTF16$CharsSpliterator")] 4

def k9m0 : Method := { name := "<init>", desc := "()V", sig := { parameters := [], returnType := none }, accessFlags := 0, code := none }
def k9c1 : Code := { maxStack := 1, maxLocals := 1, code := jdk_52_method_2_code, exceptionTable := #[], attributes := #[] }
def k9m1 : Method := { name := "newBytesFor", desc := "(I)[B", sig := { parameters := [.int], returnType := some (.array .byte) }, accessFlags := 9, code := some k9c1 }
def k9c2 : Code := { maxStack := 4, maxLocals := 1, code := jdk_52_method_3_code, exceptionTable := #[], attributes := #[] }
def k9m2 : Method := { name := "newBytesLength", desc := "(I)I", sig := { parameters := [.int], returnType := some .int }, accessFlags := 9, code := some k9c2 }
def k9c3 : Code := { maxStack := 4, maxLocals := 3, code := jdk_52_method_4_code, exceptionTable := #[], attributes := #[] }
def k9m3 : Method := { name := "putChar", desc := "([BII)V", sig := { parameters := [(.array .byte), .int, .int], returnType := none }, accessFlags := 8, code := some k9c3 }
def k9c4 : Code := { maxStack := 3, maxLocals := 2, code := jdk_52_method_5_code, exceptionTable := #[], attributes := #[] }
def k9m4 : Method := { name := "getChar", desc := "([BI)C", sig := { parameters := [(.array .byte), .int], returnType := some .char }, accessFlags := 8, code := some k9c4 }
def k9c5 : Code := { maxStack := 2, maxLocals := 1, code := jdk_52_method_6_code, exceptionTable := #[], attributes := #[] }
def k9m5 : Method := { name := "length", desc := "([B)I", sig := { parameters := [(.array .byte)], returnType := some .int }, accessFlags := 9, code := some k9c5 }
def k9c6 : Code := { maxStack := 4, maxLocals := 5, code := jdk_52_method_14_code, exceptionTable := #[], attributes := #[] }
def k9m6 : Method := { name := "toBytes", desc := "([CII)[B", sig := { parameters := [(.array .char), .int, .int], returnType := some (.array .byte) }, accessFlags := 9, code := some k9c6 }
def k9c7 : Code := { maxStack := 2, maxLocals := 2, code := jdk_52_method_15_code, exceptionTable := #[], attributes := #[] }
def k9m7 : Method := { name := "coderFromArrayLen", desc := "([BI)B", sig := { parameters := [(.array .byte), .int], returnType := some .byte }, accessFlags := 8, code := some k9c7 }
def k9c8 : Code := { maxStack := 5, maxLocals := 6, code := jdk_52_method_16_code, exceptionTable := #[], attributes := #[] }
def k9m8 : Method := { name := "compress", desc := "([CII)[B", sig := { parameters := [(.array .char), .int, .int], returnType := some (.array .byte) }, accessFlags := 9, code := some k9c8 }
def k9c9 : Code := { maxStack := 3, maxLocals := 7, code := jdk_52_method_21_code, exceptionTable := #[], attributes := #[] }
def k9m9 : Method := { name := "compress", desc := "([CI[BII)I", sig := { parameters := [(.array .char), .int, (.array .byte), .int, .int], returnType := some .int }, accessFlags := 9, code := some k9c9 }
def k9c10 : Code := { maxStack := 2, maxLocals := 2, code := jdk_52_method_83_code, exceptionTable := #[], attributes := #[] }
def k9m10 : Method := { name := "charAt", desc := "([BI)C", sig := { parameters := [(.array .byte), .int], returnType := some .char }, accessFlags := 9, code := some k9c10 }
def k9c11 : Code := { maxStack := 2, maxLocals := 2, code := jdk_52_method_91_code, exceptionTable := #[], attributes := #[] }
def k9m11 : Method := { name := "checkIndex", desc := "(I[B)V", sig := { parameters := [.int, (.array .byte)], returnType := none }, accessFlags := 9, code := some k9c11 }
/-- java/lang/StringUTF16 -/
def k9 : Class := { plain "java/lang/StringUTF16" (some 0) with
  accessFlags := 48
  interfaces := #[]
  cf := some (fileOf pool9 12 #[.nestMembers #[627, 629, 369]] #[{ accessFlags := 0, nameIndex := 9, descriptorIndex := 10, attributes := #[] }, { accessFlags := 9, nameIndex := 109, descriptorIndex := 110, attributes := #[] }, { accessFlags := 9, nameIndex := 15, descriptorIndex := 16, attributes := #[] }, { accessFlags := 8, nameIndex := 113, descriptorIndex := 114, attributes := #[] }, { accessFlags := 8, nameIndex := 73, descriptorIndex := 74, attributes := #[] }, { accessFlags := 9, nameIndex := 50, descriptorIndex := 51, attributes := #[] }, { accessFlags := 9, nameIndex := 121, descriptorIndex := 122, attributes := #[] }, { accessFlags := 8, nameIndex := 261, descriptorIndex := 262, attributes := #[] }, { accessFlags := 9, nameIndex := 117, descriptorIndex := 122, attributes := #[] }, { accessFlags := 9, nameIndex := 117, descriptorIndex := 118, attributes := #[] }, { accessFlags := 9, nameIndex := 392, descriptorIndex := 74, attributes := #[] }, { accessFlags := 9, nameIndex := 69, descriptorIndex := 70, attributes := #[] }] 48 6 #[] #[{ accessFlags := 26, nameIndex := 61, descriptorIndex := 62, attributes := #[] }, { accessFlags := 26, nameIndex := 65, descriptorIndex := 62, attributes := #[] }, { accessFlags := 24, nameIndex := 430, descriptorIndex := 62, attributes := #[] }, { accessFlags := 4120, nameIndex := 46, descriptorIndex := 47, attributes := #[] }])
  fields := #[{ name := "HI_BYTE_SHIFT", type := .int, accessFlags := 26, slot := 0, constantValue := 0 }, { name := "LO_BYTE_SHIFT", type := .int, accessFlags := 26, slot := 1, constantValue := 0 }, { name := "MAX_LENGTH", type := .int, accessFlags := 24, slot := 2, constantValue := 0 }, { name := "$assertionsDisabled", type := .boolean, accessFlags := 4120, slot := 3, constantValue := 0 }]
  methods := #[k9m0, k9m1, k9m2, k9m3, k9m4, k9m5, k9m6, k9m7, k9m8, k9m9, k9m10, k9m11]
  instanceTypes := #[]
  staticTypes := #[.int, .int, .int, .boolean]
  resolved := Array.replicate 635 none
  statics := some 1 }

def pool10 : Array CpInfo := pool [(1, .class_ 2), (0, u "java/lang/String"), (1, .class_ 6), (1, u "java/lang/Object"), (0, u "<init>"), (0, u "()V"), (0, .methodref 1 10), (0, .nameAndType 11 12), (0, u "checkIndex"), (0, u "(II)V"), (1, .class_ 16), (1, u "java/lang/StringLatin1"), (36, u "([BI)C"), (67, u "$assertionsDisabled"), (0, u "Z"), (98, .class_ 223), (1, u "java/lang/StringLatin1$LinesSpliterator"), (28, u "charAt"), (137, .class_ 391), (0, u "java/lang/StringLatin1$CharsSpliterator")] 3

def k10m0 : Method := { name := "<init>", desc := "()V", sig := { parameters := [], returnType := none }, accessFlags := 0, code := none }
def k10c1 : Code := { maxStack := 2, maxLocals := 2, code := jdk_43_method_2_code, exceptionTable := #[], attributes := #[] }
def k10m1 : Method := { name := "charAt", desc := "([BI)C", sig := { parameters := [(.array .byte), .int], returnType := some .char }, accessFlags := 9, code := some k10c1 }
/-- java/lang/StringLatin1 -/
def k10 : Class := { plain "java/lang/StringLatin1" (some 0) with
  accessFlags := 48
  interfaces := #[]
  cf := some (fileOf pool10 14 #[.nestMembers #[390, 221]] #[{ accessFlags := 0, nameIndex := 7, descriptorIndex := 8, attributes := #[] }, { accessFlags := 9, nameIndex := 252, descriptorIndex := 53, attributes := #[] }] 48 4 #[] #[{ accessFlags := 4120, nameIndex := 121, descriptorIndex := 122, attributes := #[] }])
  fields := #[{ name := "$assertionsDisabled", type := .boolean, accessFlags := 4120, slot := 0, constantValue := 0 }]
  methods := #[k10m0, k10m1]
  instanceTypes := #[]
  staticTypes := #[.boolean]
  resolved := Array.replicate 395 none
  statics := none }

def pool11 : Array CpInfo := pool [(2, .class_ 4), (1, u "java/lang/Object"), (0, u "<init>"), (0, u "()V"), (17, .class_ 26), (1, u "jdk/internal/util/Preconditions"), (6, u "checkIndex"), (21, .class_ 56), (0, u "jdk/internal/util/Preconditions$4"), (57, .class_ 115), (0, u "jdk/internal/util/Preconditions$1"), (7, u "SIOOBE_FORMATTER"), (0, u "Ljava/util/function/BiFunction;"), (0, .class_ 126), (0, u "jdk/internal/util/Preconditions$2"), (3, u "AIOOBE_FORMATTER"), (0, .class_ 132), (0, u "jdk/internal/util/Preconditions$3"), (3, u "IOOBE_FORMATTER"), (41, u "(IILjava/util/function/BiFunction;)I")] 15

def k11m0 : Method := { name := "<init>", desc := "()V", sig := { parameters := [], returnType := none }, accessFlags := 1, code := none }
def k11c1 : Code := { maxStack := 3, maxLocals := 3, code := jdk_41_method_11_code, exceptionTable := #[], attributes := #[] }
def k11m1 : Method := { name := "checkIndex", desc := "(IILjava/util/function/BiFunction;)I", sig := { parameters := [.int, .int, (.object "java/util/function/BiFunction")], returnType := some .int }, accessFlags := 9, code := some k11c1 }
/-- jdk/internal/util/Preconditions -/
def k11 : Class := { plain "jdk/internal/util/Preconditions" (some 0) with
  accessFlags := 33
  interfaces := #[]
  cf := some (fileOf pool11 24 #[.nestMembers #[55, 131, 125, 114]] #[{ accessFlags := 1, nameIndex := 5, descriptorIndex := 6, attributes := #[] }, { accessFlags := 9, nameIndex := 33, descriptorIndex := 178, attributes := #[] }] 33 2 #[] #[{ accessFlags := 25, nameIndex := 123, descriptorIndex := 124, attributes := #[] }, { accessFlags := 25, nameIndex := 130, descriptorIndex := 124, attributes := #[] }, { accessFlags := 25, nameIndex := 136, descriptorIndex := 124, attributes := #[] }])
  fields := #[{ name := "SIOOBE_FORMATTER", type := (.object "java/util/function/BiFunction"), accessFlags := 25, slot := 0, constantValue := 0 }, { name := "AIOOBE_FORMATTER", type := (.object "java/util/function/BiFunction"), accessFlags := 25, slot := 1, constantValue := 0 }, { name := "IOOBE_FORMATTER", type := (.object "java/util/function/BiFunction"), accessFlags := 25, slot := 2, constantValue := 0 }]
  methods := #[k11m0, k11m1]
  instanceTypes := #[]
  staticTypes := #[(.object "java/util/function/BiFunction"), (.object "java/util/function/BiFunction"), (.object "java/util/function/BiFunction")]
  resolved := Array.replicate 194 none
  statics := some 2 }

def pool12 : Array CpInfo := pool [(9, u "<init>"), (6, .class_ 18), (1, u "java/lang/Object"), (0, u "()V"), (1, .class_ 23), (1, u "jdk/internal/util/ArraysSupport"), (0, u "LOG2_ARRAY_LONG_INDEX_SCALE"), (0, u "I"), (2, u "U"), (0, u "Ljdk/internal/misc/Unsafe;"), (8, u "BIG_ENDIAN"), (0, u "Z"), (8, u "LOG2_BYTE_BIT_SIZE"), (4, u "LOG2_ARRAY_INT_INDEX_SCALE"), (54, u "JLA"), (0, u "Ljdk/internal/access/JavaLangAccess;"), (11, u "LOG2_ARRAY_BOOLEAN_INDEX_SCALE"), (9, u "LOG2_ARRAY_BYTE_INDEX_SCALE"), (5, u "LOG2_ARRAY_CHAR_INDEX_SCALE"), (5, u "LOG2_ARRAY_SHORT_INDEX_SCALE"), (18, u "LOG2_ARRAY_FLOAT_INDEX_SCALE"), (24, u "LOG2_ARRAY_DOUBLE_INDEX_SCALE"), (89, u "T_BOOLEAN"), (2, u "T_CHAR"), (1, u "T_FLOAT"), (1, u "T_DOUBLE"), (1, u "T_BYTE"), (1, u "T_SHORT"), (1, u "T_INT"), (1, u "T_LONG"), (1, u "SOFT_MAX_ARRAY_LENGTH")] 83

def k12m0 : Method := { name := "<init>", desc := "()V", sig := { parameters := [], returnType := none }, accessFlags := 2, code := none }
/-- jdk/internal/util/ArraysSupport -/
def k12 : Class := { plain "jdk/internal/util/ArraysSupport" (some 0) with
  accessFlags := 33
  interfaces := #[]
  cf := some (fileOf pool12 21 #[] #[{ accessFlags := 2, nameIndex := 9, descriptorIndex := 19, attributes := #[] }] 33 16 #[] #[{ accessFlags := 24, nameIndex := 28, descriptorIndex := 29, attributes := #[] }, { accessFlags := 26, nameIndex := 38, descriptorIndex := 39, attributes := #[] }, { accessFlags := 25, nameIndex := 121, descriptorIndex := 25, attributes := #[] }, { accessFlags := 25, nameIndex := 131, descriptorIndex := 25, attributes := #[] }, { accessFlags := 25, nameIndex := 137, descriptorIndex := 25, attributes := #[] }, { accessFlags := 25, nameIndex := 143, descriptorIndex := 25, attributes := #[] }, { accessFlags := 25, nameIndex := 53, descriptorIndex := 25, attributes := #[] }, { accessFlags := 25, nameIndex := 24, descriptorIndex := 25, attributes := #[] }, { accessFlags := 25, nameIndex := 162, descriptorIndex := 25, attributes := #[] }, { accessFlags := 25, nameIndex := 187, descriptorIndex := 25, attributes := #[] }, { accessFlags := 26, nameIndex := 48, descriptorIndex := 25, attributes := #[] }, { accessFlags := 25, nameIndex := 277, descriptorIndex := 25, attributes := #[] }, { accessFlags := 25, nameIndex := 280, descriptorIndex := 25, attributes := #[] }, { accessFlags := 25, nameIndex := 282, descriptorIndex := 25, attributes := #[] }, { accessFlags := 25, nameIndex := 284, descriptorIndex := 25, attributes := #[] }, { accessFlags := 25, nameIndex := 286, descriptorIndex := 25, attributes := #[] }, { accessFlags := 25, nameIndex := 288, descriptorIndex := 25, attributes := #[] }, { accessFlags := 25, nameIndex := 290, descriptorIndex := 25, attributes := #[] }, { accessFlags := 25, nameIndex := 292, descriptorIndex := 25, attributes := #[] }, { accessFlags := 26, nameIndex := 108, descriptorIndex := 109, attributes := #[] }, { accessFlags := 25, nameIndex := 294, descriptorIndex := 25, attributes := #[] }])
  fields := #[{ name := "U", type := (.object "jdk/internal/misc/Unsafe"), accessFlags := 24, slot := 0, constantValue := 0 }, { name := "BIG_ENDIAN", type := .boolean, accessFlags := 26, slot := 1, constantValue := 0 }, { name := "LOG2_ARRAY_BOOLEAN_INDEX_SCALE", type := .int, accessFlags := 25, slot := 2, constantValue := 0 }, { name := "LOG2_ARRAY_BYTE_INDEX_SCALE", type := .int, accessFlags := 25, slot := 3, constantValue := 0 }, { name := "LOG2_ARRAY_CHAR_INDEX_SCALE", type := .int, accessFlags := 25, slot := 4, constantValue := 0 }, { name := "LOG2_ARRAY_SHORT_INDEX_SCALE", type := .int, accessFlags := 25, slot := 5, constantValue := 0 }, { name := "LOG2_ARRAY_INT_INDEX_SCALE", type := .int, accessFlags := 25, slot := 6, constantValue := 0 }, { name := "LOG2_ARRAY_LONG_INDEX_SCALE", type := .int, accessFlags := 25, slot := 7, constantValue := 0 }, { name := "LOG2_ARRAY_FLOAT_INDEX_SCALE", type := .int, accessFlags := 25, slot := 8, constantValue := 0 }, { name := "LOG2_ARRAY_DOUBLE_INDEX_SCALE", type := .int, accessFlags := 25, slot := 9, constantValue := 0 }, { name := "LOG2_BYTE_BIT_SIZE", type := .int, accessFlags := 26, slot := 10, constantValue := 0 }, { name := "T_BOOLEAN", type := .int, accessFlags := 25, slot := 11, constantValue := 0 }, { name := "T_CHAR", type := .int, accessFlags := 25, slot := 12, constantValue := 0 }, { name := "T_FLOAT", type := .int, accessFlags := 25, slot := 13, constantValue := 0 }, { name := "T_DOUBLE", type := .int, accessFlags := 25, slot := 14, constantValue := 0 }, { name := "T_BYTE", type := .int, accessFlags := 25, slot := 15, constantValue := 0 }, { name := "T_SHORT", type := .int, accessFlags := 25, slot := 16, constantValue := 0 }, { name := "T_INT", type := .int, accessFlags := 25, slot := 17, constantValue := 0 }, { name := "T_LONG", type := .int, accessFlags := 25, slot := 18, constantValue := 0 }, { name := "JLA", type := (.object "jdk/internal/access/JavaLangAccess"), accessFlags := 26, slot := 19, constantValue := 0 }, { name := "SOFT_MAX_ARRAY_LENGTH", type := .int, accessFlags := 25, slot := 20, constantValue := 0 }]
  methods := #[k12m0]
  instanceTypes := #[]
  staticTypes := #[(.object "jdk/internal/misc/Unsafe"), .boolean, .int, .int, .int, .int, .int, .int, .int, .int, .int, .int, .int, .int, .int, .int, .int, .int, .int, (.object "jdk/internal/access/JavaLangAccess"), .int]
  resolved := Array.replicate 378 none
  statics := none }

def pool13 : Array CpInfo := pool [(1, u "java/lang/Cloneable"), (0, .class_ 1), (0, u "java/lang/Object"), (0, .class_ 3)] 3

/-- java/lang/Cloneable -/
def k13 : Class := { plain "java/lang/Cloneable" (some 0) with
  accessFlags := 1537
  interfaces := #[]
  cf := some (fileOf pool13 2 #[] #[] 1537 4 #[] #[])
  fields := #[]
  methods := #[]
  instanceTypes := #[]
  staticTypes := #[]
  resolved := Array.replicate 8 none
  statics := none }

/-- the primitive byte -/
def k14 : Class := { plain "byte" none with kind := .primitive 'B', accessFlags := 0x411 }
/-- [B -/
def k15 : Class := { plain "[B" (some 0) with kind := .array 14 .byte, interfaces := #[13, 2], accessFlags := 1041 }

/-- the primitive char -/
def k16 : Class := { plain "char" none with kind := .primitive 'C', accessFlags := 0x411 }
/-- [C -/
def k17 : Class := { plain "[C" (some 0) with kind := .array 16 .char, interfaces := #[13, 2], accessFlags := 1041 }

/-- the primitive int -/
def k18 : Class := { plain "int" none with kind := .primitive 'I', accessFlags := 0x411 }
/-- [I -/
def k19 : Class := { plain "[I" (some 0) with kind := .array 18 .int, interfaces := #[13, 2], accessFlags := 1041 }

def heap : Heap := #[{ cls := 7, slots := #[.long 0, .int 1, .null, .int 0, .null, .int 0, .int 0], vm := .statics 7 },
  { cls := 9, slots := #[.int 0, .int 8, .int 0, .int 1], vm := .statics 9 },
  { cls := 11, slots := #[.null, .null, .null], vm := .statics 11 }]
def classes : Array Class := #[k0, k1, k2, k3, k4, k5, k6, k7, k8, k9, k10, k11, k12, k13, k14, k15, k16, k17, k18, k19]
def interned : List (Array UInt16 × Addr) := []
def slotsUsed : Nat := 14
def theMethod : MethodId := ⟨1, 2⟩
def args0 : Array Value := #[.int 5, .int 5, .int 5, .int 5, .int 5]
def aboutOver (below : List Frame) : State where
  vm := { classes := classes, interned := interned.toArray }
  heap := heap
  slotsUsed := slotsUsed
  threads := #[{ frames := .invoking theMethod args0 :: below }]
def below0 : List Frame := [.native { method := ⟨0, 0⟩, args := #[] }]
def about1 : State := aboutOver below0
def p0 : Program := .bare "" "" ""
def e0 : Env := launch0.env 0 0 0
theorem w_frames : about1.frames = Frame.invoking theMethod args0 :: below0 := rfl
set_option maxRecDepth 65536 in
theorem w_args : argsFit about1.vm theMethod args0 = true := by decide +kernel
set_option maxRecDepth 65536 in
theorem w_heap : heapFits about1 = true := by decide +kernel
set_option maxRecDepth 65536 in
theorem w_runnable : about1.curStatus? = some .runnable := by decide +kernel
set_option maxRecDepth 65536 in
theorem w_alone : about1.alone = true := by decide +kernel
set_option maxRecDepth 65536 in
theorem w_named : about1.methodNamed? x = some theMethod := by decide +kernel
set_option maxRecDepth 65536 in
theorem w_hears : about1.hears theMethod below0 = true := by decide +kernel
set_option maxRecDepth 65536 in
theorem w_ripe : about1.ripe theMethod args0 below0 = true := by decide +kernel
theorem w_running : about1.status = .running := rfl
set_option maxRecDepth 65536 in
theorem w_room : about1.hasRoom e0.platform room_1 = true :=
  launch0.hasRoom_least _ room_1 (by decide +kernel) (by decide +kernel) (by decide +kernel) (by decide +kernel) (by decide +kernel) (by decide +kernel)
theorem allAtoms_all (ts : List Jvm.Cond) (a : Array Jvm.Value) (st : Jvm.State) : (allAtoms ts).before a st = ts.all (fun c => c.before a st) := by
  induction ts with
  | nil => rfl
  | cons c t ih =>
    show (Jvm.Cond.and c (allAtoms t)).before a st = _
    rw [Jvm.Cond.before_and, ih, List.all_cons]
def words1 : List Jvm.Cond := Jvm.Cond.code x code maxLocals ret :: tables_1
/-- a 'code' word, met by the world's own term for the bytes: nothing is compared byte by byte -/
theorem code_word {y : MethodName} {bytes : ByteArray} {mx : Nat} {rt : Option FieldType} {a : Array Value} {s : State} {m : MethodId} {meth : Method} {c : Code} (h1 : s.methodNamed? y = some m) (h2 : s.vm.method? m = some meth) (h3 : meth.code = some c) (h4 : c.code = bytes)
    (h5 : (c.maxLocals == mx && c.exceptionTable.isEmpty && decide (c.maxStack ≤ mostOperands) && decide (meth.sig.returnType = rt) && !meth.locks && decide (parseMethodDescriptor y.desc = some meth.sig)) = true) : (Jvm.Cond.code y bytes mx rt).before a s = true := by
  simp only [Bool.and_eq_true, beq_iff_eq, Bool.not_eq_true', decide_eq_true_eq] at h5
  obtain ⟨⟨⟨⟨⟨g1, g2⟩, g3⟩, g4⟩, g5⟩, g6⟩ := h5
  simp [Cond.before, Cond.holds, Cond.value, h1, h2, h3, h4, g1, g2, g3, g4, g5, g6]
def isCode : Jvm.Cond → Bool
  | .code _ _ _ _ => true
  | _ => false
theorem all_split {L : List Jvm.Cond} {P : Jvm.Cond → Bool} (h1 : L.all (fun c => isCode c || P c) = true) (h2 : ∀ c ∈ L.filter isCode, P c = true) : L.all P = true := by
  refine List.all_eq_true.mpr fun c hc => ?_
  have h := List.all_eq_true.mp h1 c hc
  rcases Bool.eq_false_or_eq_true (isCode c) with hi | hi
  · exact h2 c (List.mem_filter.mpr ⟨hc, hi⟩)
  · simpa [hi] using h
set_option maxRecDepth 65536 in
theorem w_c0 : (Jvm.Cond.code x code maxLocals ret).before args0 about1 = true := code_word (m := ⟨1, 2⟩) (meth := k1m2) (c := k1c2) (by decide +kernel) rfl rfl rfl (by decide +kernel)
set_option maxRecDepth 65536 in
theorem w_c1 : (Jvm.Cond.code ({ cls := "java/lang/String", name := "<init>", desc := "([C)V" } : Jvm.MethodName) jdk_42_method_3_code (2 : Nat) (Option.none : Option Jvm.ClassFile.FieldType)).before args0 about1 = true := code_word (m := ⟨7, 1⟩) (meth := k7m1) (c := k7c1) (by decide +kernel) rfl rfl rfl (by decide +kernel)
set_option maxRecDepth 65536 in
theorem w_c2 : (Jvm.Cond.code ({ cls := "java/lang/String", name := "<init>", desc := "([CIILjava/lang/Void;)V" } : Jvm.MethodName) jdk_42_method_149_code (6 : Nat) (Option.none : Option Jvm.ClassFile.FieldType)).before args0 about1 = true := code_word (m := ⟨7, 5⟩) (meth := k7m5) (c := k7c5) (by decide +kernel) rfl rfl rfl (by decide +kernel)
set_option maxRecDepth 65536 in
theorem w_c3 : (Jvm.Cond.code ({ cls := "java/lang/Object", name := "<init>", desc := "()V" } : Jvm.MethodName) object_method_1_code (1 : Nat) (Option.none : Option Jvm.ClassFile.FieldType)).before args0 about1 = true := code_word (m := ⟨0, 0⟩) (meth := k0m0) (c := k0c0) (by decide +kernel) rfl rfl rfl (by decide +kernel)
set_option maxRecDepth 65536 in
theorem w_c4 : (Jvm.Cond.code ({ cls := "com/example/loqix/loqix/TopicName", name := "isValid", desc := "(Ljava/lang/String;)Z" } : Jvm.MethodName) prog_22_method_2_code (4 : Nat) (Option.some Jvm.ClassFile.FieldType.boolean)).before args0 about1 = true := code_word (m := ⟨8, 1⟩) (meth := k8m1) (c := k8c1) (by decide +kernel) rfl rfl rfl (by decide +kernel)
set_option maxRecDepth 65536 in
theorem w_c5 : (Jvm.Cond.code ({ cls := "java/lang/String", name := "isEmpty", desc := "()Z" } : Jvm.MethodName) jdk_42_method_55_code (1 : Nat) (Option.some Jvm.ClassFile.FieldType.boolean)).before args0 about1 = true := code_word (m := ⟨7, 3⟩) (meth := k7m3) (c := k7c3) (by decide +kernel) rfl rfl rfl (by decide +kernel)
set_option maxRecDepth 65536 in
theorem w_c6 : (Jvm.Cond.code ({ cls := "java/lang/StringUTF16", name := "compress", desc := "([CII)[B" } : Jvm.MethodName) jdk_52_method_16_code (6 : Nat) (Option.some (Jvm.ClassFile.FieldType.array Jvm.ClassFile.FieldType.byte))).before args0 about1 = true := code_word (m := ⟨9, 8⟩) (meth := k9m8) (c := k9c8) (by decide +kernel) rfl rfl rfl (by decide +kernel)
set_option maxRecDepth 65536 in
theorem w_c7 : (Jvm.Cond.code ({ cls := "java/lang/StringUTF16", name := "compress", desc := "([CI[BII)I" } : Jvm.MethodName) jdk_52_method_21_code (7 : Nat) (Option.some Jvm.ClassFile.FieldType.int)).before args0 about1 = true := code_word (m := ⟨9, 9⟩) (meth := k9m9) (c := k9c9) (by decide +kernel) rfl rfl rfl (by decide +kernel)
set_option maxRecDepth 65536 in
theorem w_c8 : (Jvm.Cond.code ({ cls := "java/lang/StringUTF16", name := "coderFromArrayLen", desc := "([BI)B" } : Jvm.MethodName) jdk_52_method_15_code (2 : Nat) (Option.some Jvm.ClassFile.FieldType.byte)).before args0 about1 = true := code_word (m := ⟨9, 7⟩) (meth := k9m7) (c := k9c7) (by decide +kernel) rfl rfl rfl (by decide +kernel)
set_option maxRecDepth 65536 in
theorem w_c9 : (Jvm.Cond.code ({ cls := "com/example/loqix/loqix/TopicNameIsValidPinLaw", name := "ok", desc := "(C)Z" } : Jvm.MethodName) method_2_code (1 : Nat) (Option.some Jvm.ClassFile.FieldType.boolean)).before args0 about1 = true := code_word (m := ⟨1, 1⟩) (meth := k1m1) (c := k1c1) (by decide +kernel) rfl rfl rfl (by decide +kernel)
set_option maxRecDepth 65536 in
theorem w_c10 : (Jvm.Cond.code ({ cls := "java/lang/String", name := "length", desc := "()I" } : Jvm.MethodName) jdk_42_method_54_code (1 : Nat) (Option.some Jvm.ClassFile.FieldType.int)).before args0 about1 = true := code_word (m := ⟨7, 2⟩) (meth := k7m2) (c := k7c2) (by decide +kernel) rfl rfl rfl (by decide +kernel)
set_option maxRecDepth 65536 in
theorem w_c11 : (Jvm.Cond.code ({ cls := "java/lang/String", name := "coder", desc := "()B" } : Jvm.MethodName) jdk_42_method_152_code (1 : Nat) (Option.some Jvm.ClassFile.FieldType.byte)).before args0 about1 = true := code_word (m := ⟨7, 6⟩) (meth := k7m6) (c := k7c6) (by decide +kernel) rfl rfl rfl (by decide +kernel)
set_option maxRecDepth 65536 in
theorem w_c12 : (Jvm.Cond.code ({ cls := "java/lang/String", name := "charAt", desc := "(I)C" } : Jvm.MethodName) jdk_42_method_56_code (2 : Nat) (Option.some Jvm.ClassFile.FieldType.char)).before args0 about1 = true := code_word (m := ⟨7, 4⟩) (meth := k7m4) (c := k7c4) (by decide +kernel) rfl rfl rfl (by decide +kernel)
set_option maxRecDepth 65536 in
theorem w_c13 : (Jvm.Cond.code ({ cls := "java/lang/String", name := "isLatin1", desc := "()Z" } : Jvm.MethodName) jdk_42_method_154_code (1 : Nat) (Option.some Jvm.ClassFile.FieldType.boolean)).before args0 about1 = true := code_word (m := ⟨7, 7⟩) (meth := k7m7) (c := k7c7) (by decide +kernel) rfl rfl rfl (by decide +kernel)
set_option maxRecDepth 65536 in
theorem w_c14 : (Jvm.Cond.code ({ cls := "java/lang/StringLatin1", name := "charAt", desc := "([BI)C" } : Jvm.MethodName) jdk_43_method_2_code (2 : Nat) (Option.some Jvm.ClassFile.FieldType.char)).before args0 about1 = true := code_word (m := ⟨10, 1⟩) (meth := k10m1) (c := k10c1) (by decide +kernel) rfl rfl rfl (by decide +kernel)
set_option maxRecDepth 65536 in
theorem w_c15 : (Jvm.Cond.code ({ cls := "java/lang/String", name := "checkIndex", desc := "(II)V" } : Jvm.MethodName) jdk_42_method_155_code (2 : Nat) (Option.none : Option Jvm.ClassFile.FieldType)).before args0 about1 = true := code_word (m := ⟨7, 8⟩) (meth := k7m8) (c := k7c8) (by decide +kernel) rfl rfl rfl (by decide +kernel)
set_option maxRecDepth 65536 in
theorem w_c16 : (Jvm.Cond.code ({ cls := "jdk/internal/util/Preconditions", name := "checkIndex", desc := "(IILjava/util/function/BiFunction;)I" } : Jvm.MethodName) jdk_41_method_11_code (3 : Nat) (Option.some Jvm.ClassFile.FieldType.int)).before args0 about1 = true := code_word (m := ⟨11, 1⟩) (meth := k11m1) (c := k11c1) (by decide +kernel) rfl rfl rfl (by decide +kernel)
set_option maxRecDepth 65536 in
theorem w_c17 : (Jvm.Cond.code ({ cls := "java/lang/StringUTF16", name := "toBytes", desc := "([CII)[B" } : Jvm.MethodName) jdk_52_method_14_code (5 : Nat) (Option.some (Jvm.ClassFile.FieldType.array Jvm.ClassFile.FieldType.byte))).before args0 about1 = true := code_word (m := ⟨9, 6⟩) (meth := k9m6) (c := k9c6) (by decide +kernel) rfl rfl rfl (by decide +kernel)
set_option maxRecDepth 65536 in
theorem w_c18 : (Jvm.Cond.code ({ cls := "java/lang/StringUTF16", name := "newBytesFor", desc := "(I)[B" } : Jvm.MethodName) jdk_52_method_2_code (1 : Nat) (Option.some (Jvm.ClassFile.FieldType.array Jvm.ClassFile.FieldType.byte))).before args0 about1 = true := code_word (m := ⟨9, 1⟩) (meth := k9m1) (c := k9c1) (by decide +kernel) rfl rfl rfl (by decide +kernel)
set_option maxRecDepth 65536 in
theorem w_c19 : (Jvm.Cond.code ({ cls := "java/lang/StringUTF16", name := "newBytesLength", desc := "(I)I" } : Jvm.MethodName) jdk_52_method_3_code (1 : Nat) (Option.some Jvm.ClassFile.FieldType.int)).before args0 about1 = true := code_word (m := ⟨9, 2⟩) (meth := k9m2) (c := k9c2) (by decide +kernel) rfl rfl rfl (by decide +kernel)
set_option maxRecDepth 65536 in
theorem w_c20 : (Jvm.Cond.code ({ cls := "java/lang/StringUTF16", name := "putChar", desc := "([BII)V" } : Jvm.MethodName) jdk_52_method_4_code (3 : Nat) (Option.none : Option Jvm.ClassFile.FieldType)).before args0 about1 = true := code_word (m := ⟨9, 3⟩) (meth := k9m3) (c := k9c3) (by decide +kernel) rfl rfl rfl (by decide +kernel)
set_option maxRecDepth 65536 in
theorem w_c21 : (Jvm.Cond.code ({ cls := "java/lang/StringUTF16", name := "getChar", desc := "([BI)C" } : Jvm.MethodName) jdk_52_method_5_code (2 : Nat) (Option.some Jvm.ClassFile.FieldType.char)).before args0 about1 = true := code_word (m := ⟨9, 4⟩) (meth := k9m4) (c := k9c4) (by decide +kernel) rfl rfl rfl (by decide +kernel)
set_option maxRecDepth 65536 in
theorem w_c22 : (Jvm.Cond.code ({ cls := "java/lang/StringUTF16", name := "charAt", desc := "([BI)C" } : Jvm.MethodName) jdk_52_method_83_code (2 : Nat) (Option.some Jvm.ClassFile.FieldType.char)).before args0 about1 = true := code_word (m := ⟨9, 10⟩) (meth := k9m10) (c := k9c10) (by decide +kernel) rfl rfl rfl (by decide +kernel)
set_option maxRecDepth 65536 in
theorem w_c23 : (Jvm.Cond.code ({ cls := "java/lang/StringUTF16", name := "checkIndex", desc := "(I[B)V" } : Jvm.MethodName) jdk_52_method_91_code (2 : Nat) (Option.none : Option Jvm.ClassFile.FieldType)).before args0 about1 = true := code_word (m := ⟨9, 11⟩) (meth := k9m11) (c := k9c11) (by decide +kernel) rfl rfl rfl (by decide +kernel)
set_option maxRecDepth 65536 in
theorem w_c24 : (Jvm.Cond.code ({ cls := "java/lang/StringUTF16", name := "length", desc := "([B)I" } : Jvm.MethodName) jdk_52_method_6_code (1 : Nat) (Option.some Jvm.ClassFile.FieldType.int)).before args0 about1 = true := code_word (m := ⟨9, 5⟩) (meth := k9m5) (c := k9c5) (by decide +kernel) rfl rfl rfl (by decide +kernel)
def codes1 : List Jvm.Cond := [Jvm.Cond.code x code maxLocals ret, Jvm.Cond.code ({ cls := "java/lang/String", name := "<init>", desc := "([C)V" } : Jvm.MethodName) jdk_42_method_3_code (2 : Nat) (Option.none : Option Jvm.ClassFile.FieldType), Jvm.Cond.code ({ cls := "java/lang/String", name := "<init>", desc := "([CIILjava/lang/Void;)V" } : Jvm.MethodName) jdk_42_method_149_code (6 : Nat) (Option.none : Option Jvm.ClassFile.FieldType), Jvm.Cond.code ({ cls := "java/lang/Object", name := "<init>", desc := "()V" } : Jvm.MethodName) object_method_1_code (1 : Nat) (Option.none : Option Jvm.ClassFile.FieldType), Jvm.Cond.code ({ cls := "com/example/loqix/loqix/TopicName", name := "isValid", desc := "(Ljava/lang/String;)Z" } : Jvm.MethodName) prog_22_method_2_code (4 : Nat) (Option.some Jvm.ClassFile.FieldType.boolean), Jvm.Cond.code ({ cls := "java/lang/String", name := "isEmpty", desc := "()Z" } : Jvm.MethodName) jdk_42_method_55_code (1 : Nat) (Option.some Jvm.ClassFile.FieldType.boolean), Jvm.Cond.code ({ cls := "java/lang/StringUTF16", name := "compress", desc := "([CII)[B" } : Jvm.MethodName) jdk_52_method_16_code (6 : Nat) (Option.some (Jvm.ClassFile.FieldType.array Jvm.ClassFile.FieldType.byte)), Jvm.Cond.code ({ cls := "java/lang/StringUTF16", name := "compress", desc := "([CI[BII)I" } : Jvm.MethodName) jdk_52_method_21_code (7 : Nat) (Option.some Jvm.ClassFile.FieldType.int), Jvm.Cond.code ({ cls := "java/lang/StringUTF16", name := "coderFromArrayLen", desc := "([BI)B" } : Jvm.MethodName) jdk_52_method_15_code (2 : Nat) (Option.some Jvm.ClassFile.FieldType.byte), Jvm.Cond.code ({ cls := "com/example/loqix/loqix/TopicNameIsValidPinLaw", name := "ok", desc := "(C)Z" } : Jvm.MethodName) method_2_code (1 : Nat) (Option.some Jvm.ClassFile.FieldType.boolean), Jvm.Cond.code ({ cls := "java/lang/String", name := "length", desc := "()I" } : Jvm.MethodName) jdk_42_method_54_code (1 : Nat) (Option.some Jvm.ClassFile.FieldType.int), Jvm.Cond.code ({ cls := "java/lang/String", name := "coder", desc := "()B" } : Jvm.MethodName) jdk_42_method_152_code (1 : Nat) (Option.some Jvm.ClassFile.FieldType.byte), Jvm.Cond.code ({ cls := "java/lang/String", name := "charAt", desc := "(I)C" } : Jvm.MethodName) jdk_42_method_56_code (2 : Nat) (Option.some Jvm.ClassFile.FieldType.char), Jvm.Cond.code ({ cls := "java/lang/String", name := "isLatin1", desc := "()Z" } : Jvm.MethodName) jdk_42_method_154_code (1 : Nat) (Option.some Jvm.ClassFile.FieldType.boolean), Jvm.Cond.code ({ cls := "java/lang/StringLatin1", name := "charAt", desc := "([BI)C" } : Jvm.MethodName) jdk_43_method_2_code (2 : Nat) (Option.some Jvm.ClassFile.FieldType.char), Jvm.Cond.code ({ cls := "java/lang/String", name := "checkIndex", desc := "(II)V" } : Jvm.MethodName) jdk_42_method_155_code (2 : Nat) (Option.none : Option Jvm.ClassFile.FieldType), Jvm.Cond.code ({ cls := "jdk/internal/util/Preconditions", name := "checkIndex", desc := "(IILjava/util/function/BiFunction;)I" } : Jvm.MethodName) jdk_41_method_11_code (3 : Nat) (Option.some Jvm.ClassFile.FieldType.int), Jvm.Cond.code ({ cls := "java/lang/StringUTF16", name := "toBytes", desc := "([CII)[B" } : Jvm.MethodName) jdk_52_method_14_code (5 : Nat) (Option.some (Jvm.ClassFile.FieldType.array Jvm.ClassFile.FieldType.byte)), Jvm.Cond.code ({ cls := "java/lang/StringUTF16", name := "newBytesFor", desc := "(I)[B" } : Jvm.MethodName) jdk_52_method_2_code (1 : Nat) (Option.some (Jvm.ClassFile.FieldType.array Jvm.ClassFile.FieldType.byte)), Jvm.Cond.code ({ cls := "java/lang/StringUTF16", name := "newBytesLength", desc := "(I)I" } : Jvm.MethodName) jdk_52_method_3_code (1 : Nat) (Option.some Jvm.ClassFile.FieldType.int), Jvm.Cond.code ({ cls := "java/lang/StringUTF16", name := "putChar", desc := "([BII)V" } : Jvm.MethodName) jdk_52_method_4_code (3 : Nat) (Option.none : Option Jvm.ClassFile.FieldType), Jvm.Cond.code ({ cls := "java/lang/StringUTF16", name := "getChar", desc := "([BI)C" } : Jvm.MethodName) jdk_52_method_5_code (2 : Nat) (Option.some Jvm.ClassFile.FieldType.char), Jvm.Cond.code ({ cls := "java/lang/StringUTF16", name := "charAt", desc := "([BI)C" } : Jvm.MethodName) jdk_52_method_83_code (2 : Nat) (Option.some Jvm.ClassFile.FieldType.char), Jvm.Cond.code ({ cls := "java/lang/StringUTF16", name := "checkIndex", desc := "(I[B)V" } : Jvm.MethodName) jdk_52_method_91_code (2 : Nat) (Option.none : Option Jvm.ClassFile.FieldType), Jvm.Cond.code ({ cls := "java/lang/StringUTF16", name := "length", desc := "([B)I" } : Jvm.MethodName) jdk_52_method_6_code (1 : Nat) (Option.some Jvm.ClassFile.FieldType.int)]
set_option maxRecDepth 65536 in
theorem codes_eq : words1.filter isCode = codes1 := rfl
theorem w_codes : ∀ c ∈ words1.filter isCode, c.before args0 about1 = true := by
  rw [codes_eq]
  intro c hc
  simp only [codes1, List.mem_cons, List.not_mem_nil, or_false] at hc
  rcases hc with rfl | rfl | rfl | rfl | rfl | rfl | rfl | rfl | rfl | rfl | rfl | rfl | rfl | rfl | rfl | rfl | rfl | rfl | rfl | rfl | rfl | rfl | rfl | rfl | rfl
  · exact w_c0
  · exact w_c1
  · exact w_c2
  · exact w_c3
  · exact w_c4
  · exact w_c5
  · exact w_c6
  · exact w_c7
  · exact w_c8
  · exact w_c9
  · exact w_c10
  · exact w_c11
  · exact w_c12
  · exact w_c13
  · exact w_c14
  · exact w_c15
  · exact w_c16
  · exact w_c17
  · exact w_c18
  · exact w_c19
  · exact w_c20
  · exact w_c21
  · exact w_c22
  · exact w_c23
  · exact w_c24
set_option maxRecDepth 65536 in
theorem w_t1 : (words1.take 24).all (fun c => isCode c || c.before args0 about1) = true := by decide +kernel
set_option maxRecDepth 65536 in
theorem w_t2 : ((words1.drop 24).take 24).all (fun c => isCode c || c.before args0 about1) = true := by decide +kernel
set_option maxRecDepth 65536 in
theorem w_t3 : (((words1.drop 24).drop 24).take 24).all (fun c => isCode c || c.before args0 about1) = true := by decide +kernel
set_option maxRecDepth 65536 in
theorem w_t4 : ((((words1.drop 24).drop 24).drop 24).take 24).all (fun c => isCode c || c.before args0 about1) = true := by decide +kernel
set_option maxRecDepth 65536 in
theorem w_t5 : ((((words1.drop 24).drop 24).drop 24).drop 24).all (fun c => isCode c || c.before args0 about1) = true := by decide +kernel
theorem w_tables : (allAtoms (Jvm.Cond.code x code maxLocals ret :: tables_1)).before args0 about1 = true := by
  rw [allAtoms_all]
  show words1.all (fun c => c.before args0 about1) = true
  refine all_split ?_ w_codes
  rw [← List.take_append_drop 24 words1, List.all_append, w_t1, ← List.take_append_drop 24 (words1.drop 24), List.all_append, w_t2, ← List.take_append_drop 24 ((words1.drop 24).drop 24), List.all_append, w_t3, ← List.take_append_drop 24 (((words1.drop 24).drop 24).drop 24), List.all_append, w_t4, w_t5]
  rfl
set_option maxRecDepth 65536 in
theorem w_rest : rest_1_c.before args0 about1 = true := by decide +kernel
set_option maxRecDepth 65536 in
theorem w_case : (Jvm.Cond.and given_1 narrow_1).before args0 about1 = true := by decide +kernel
set_option maxRecDepth 65536 in
theorem w_consts : constsHeld consts_1 about1 := Jvm.Lit.constsHeldB_iff.mp (by decide +kernel)
theorem w_applies : (headSpec (Jvm.Cond.code x code maxLocals ret :: tables_1) room_1).applies x e0.platform about1 = true :=
  (Spec.applies_iff w_frames).mpr ⟨w_running, w_runnable, w_alone, w_named, w_hears, w_ripe, w_room, w_tables⟩
theorem atStart : AtStart classFile x code maxLocals ret World_1 tables_1 room_1 Calls_1 rest_1 Pre_1 launch0 p0 e0 about1 theMethod args0 below0 :=
  ⟨lists_1, trivial, launch0.admits_env _ _ _, launch0.least_env, fairChoices_fair.cas, fairChoices_fair.clock, w_frames, w_args, w_heap, w_applies, ⟨w_consts, trivial⟩, w_rest, w_case⟩
end start1
theorem witness_1 : WitnessClaimed_1 := ⟨start1.p0, start1.e0, start1.about1, start1.theMethod, start1.args0, start1.below0, start1.atStart⟩
end Jvm.Pilot.@@N@@
