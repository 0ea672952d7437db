import JvmDerived
import JvmDerived.Pilot.@@N@@Statement
import JvmDerived.Pilot.@@N@@Code
set_option linter.unusedVariables false
set_option linter.unusedSimpArgs false
namespace Jvm.RoadKit
open Sem ClassFile Op Lib Jvm.Stand Jvm.Free Jvm.LawKit
section OwnGo
variable {p : Program} {l : Launch} {e : Env} {R : Room} {s : State} {m : MethodId} {args : Array Value} {below : List Frame} {meth : Method} {c : Code} {T T' : State} {f f' g : JFrame} {locs : List Loc} {cells slots : Nat} {P : Outcome → State → Prop} {Q : Option Value → Heap → List Loc → Prop} {C N : Nat} {Z : State} {a0 : Array Value} {h : Heap}
/-- from T with the frame f on top the invocation ends, and P holds of its end -/
def oG (p : Program) (e : Env) (below : List Frame) (P : Outcome → State → Prop) (T : State) (f : JFrame) : Prop := ∃ s₂ o, Steps p.tables e below (T.setTop f) s₂ ∧ s₂.status = .running ∧ Ended s₂ below o ∧ P o s₂
theorem oS (h : ∀ t, Steps p.tables e below (T'.setTop f') t → Steps p.tables e below (T.setTop f) t) (k : oG p e below P T' f') : oG p e below P T f := by
  obtain ⟨s2, o, a, b⟩ := k
  exact ⟨s2, o, h _ a, b⟩
theorem own_tr (h : Steps p.tables e below (T.setTop f) (T'.setTop f')) (k : oG p e below P T' f') : oG p e below P T f := oS (fun _ q => h.trans q) k
theorem own_cast (q : f = f') (k : oG p e below P T f') : oG p e below P T f := q ▸ k
def own_P (s : State) (Q : Option Value → Heap → List Loc → Prop) (C N : Nat) (o : Outcome) (U' : State) : Prop := ∃ v L, o = .returned v ∧ Q v U'.heap L ∧ FrameEnd s o U' L C N
theorem own_ret {v : Option Value} (X : Stand p l e R s m args below meth c T locs cells slots) (hlocks : meth.locks = false) (hv : meth.sig.returnType = none → v = none) (hq : Q v T.heap locs) (hC : cells ≤ C) (hN : slots ≤ N)
    (hst : ∀ fs, (∀ (f : JFrame) (acts : List Action), f.method = m → f.locked = none → f.entered = [] → (doReturn e (T.setTop f) acts v).1 = T.setFrames fs) → Steps p.tables e below (T.setTop g) (T.setFrames fs)) : oG p e below (own_P s Q C N) T g := by
  obtain ⟨fs, hr, hrun, hended, hW, hsame⟩ := X.leave hv hlocks
  exact ⟨_, _, hst fs hr, hrun, hended, _, _, rfl, hq, ⟨_, rfl⟩, hW, hsame.mono hC hN⟩
theorem own_retN {pc : Nat} {Ls : Array Slot} {z : Int32} {t : FieldType} {rest : List Value} (X : Stand p l e R s m args below meth c T locs cells slots) (hx : p.tables.exec = Jvm.exec) (hlocks : meth.locks = false) (hret : meth.sig.returnType = some t) (ht : t = .boolean ∨ t = .byte ∨ t = .char ∨ t = .short)
    (hd : decode c.code pc = .ok (.ireturn, 1)) (hq : Q (some (.int (nar t z))) T.heap locs) (hC : cells ≤ C) (hN : slots ≤ N) : oG p e below (own_P s Q C N) T (mkF m pc Ls (.int z :: rest)) :=
  own_ret X hlocks (fun h => by rw [hret] at h; cases h) hq hC hN (fun fs hr => retN X hx hret ht hd hr)
theorem own_retI {pc : Nat} {Ls : Array Slot} {z : Int32} {rest : List Value} (X : Stand p l e R s m args below meth c T locs cells slots) (hx : p.tables.exec = Jvm.exec) (hlocks : meth.locks = false) (hret : meth.sig.returnType = some .int)
    (hd : decode c.code pc = .ok (.ireturn, 1)) (hq : Q (some (.int z)) T.heap locs) (hC : cells ≤ C) (hN : slots ≤ N) : oG p e below (own_P s Q C N) T (mkF m pc Ls (.int z :: rest)) :=
  own_ret X hlocks (fun h => by rw [hret] at h; cases h) hq hC hN (fun fs hr => by
    have hm' : T.vm.method? m = some meth := X.method'
    have hn : narrow .int (.int z) = .int z := rfl
    show Steps p.tables e below (T.setTop { method := m, pc := pc, locals := Ls, stack := _ :: rest, locked := none }) _
    jvm_step X.here [X.here.top, hx, hd, hm', hret, hn]
    first | (intro acts; rw [hr _ acts rfl rfl rfl]) | rw [hr _ _ rfl rfl rfl]
    exact Steps.refl _)
theorem own_retA {pc : Nat} {Ls : Array Slot} {v : Value} {t : FieldType} {rest : List Value} (X : Stand p l e R s m args below meth c T locs cells slots) (hx : p.tables.exec = Jvm.exec) (hlocks : meth.locks = false) (hret : meth.sig.returnType = some t) (ht : t.isReference = true) (hv : v.isRef = true)
    (hd : decode c.code pc = .ok (.areturn, 1)) (hq : Q (some v) T.heap locs) (hC : cells ≤ C) (hN : slots ≤ N) : oG p e below (own_P s Q C N) T (mkF m pc Ls (v :: rest)) :=
  own_ret X hlocks (fun h => by rw [hret] at h; cases h) hq hC hN (fun fs hr => by
    have hm' : T.vm.method? m = some meth := X.method'
    show Steps p.tables e below (T.setTop { method := m, pc := pc, locals := Ls, stack := _ :: rest, locked := none }) _
    jvm_step X.here [X.here.top, hx, hd, hm', hret, hv, ht]
    first | (intro acts; rw [hr _ acts rfl rfl rfl]) | rw [hr _ _ rfl rfl rfl]
    exact Steps.refl _)
theorem own_retV {pc : Nat} {Ls : Array Slot} (X : Stand p l e R s m args below meth c T locs cells slots) (hx : p.tables.exec = Jvm.exec) (hlocks : meth.locks = false) (hret : meth.sig.returnType = none)
    (hd : decode c.code pc = .ok (.return_, 1)) (hq : Q none T.heap locs) (hC : cells ≤ C) (hN : slots ≤ N) : oG p e below (own_P s Q C N) T (mkF m pc Ls []) :=
  own_ret X hlocks (fun _ => rfl) hq hC hN (fun fs hr => X.returnOut hx hret hd hr)
/-- a method's contract -/
def own_Met (l : Launch) (Z : State) (ws : List Cond) (y : MethodName) (bytes : ByteArray) (ml : Nat) (ret : Option FieldType) (rm : Room) (as' : Array Value) (h : Heap) (Q : Option Value → Heap → List Loc → Prop) : Prop :=
  MetFree l y (head1 (Cond.code y bytes ml ret :: ws) rm) (fun a U => a = as' ∧ Z.Warmed39 U.vm ∧ U.heap = h) (fun _ _ _ _ _ => True) (fun _ U o U' => ∃ v L, o = .returned v ∧ Q v U'.heap L ∧ FrameEnd U o U' L rm.cells rm.slots)
theorem own_body {ws : List Cond} {y : MethodName} {bytes : ByteArray} {ml : Nat} {ret : Option FieldType} {rm : Room} {as' : Array Value} (hpn : plainFor y = true)
    (body : ∀ (p : Program) (e : Env) (s : State) (m : MethodId) (below : List Frame) (meth : Method) (c : Code) (s₁ : State), p.tables.exec = Jvm.exec → c.code = bytes → c.maxLocals = ml → meth.sig.returnType = ret → meth.locks = false → s.vm.findClass y.cls = some m.cls → meth.name = y.name → Z.Warmed39 s.vm →
      Stand p l e rm s m as' below meth c s₁ [] 0 0 → s₁.heap = h → oG p e below (own_P s Q rm.cells rm.slots) s₁ (entryFrame m as' ml)) : own_Met l Z ws y bytes ml ret rm as' h Q := by
  refine MetFree.of_bodySF hpn hisR ?_
  intro p e s m args below meth c s₁ Bd hml0 hP hK
  obtain ⟨rfl, hZ, hh⟩ := hP
  exact body p e s m below meth c s₁ Bd.exec Bd.bytes hml0 Bd.returns Bd.notSynchronized (findClass_of_methodNamed Bd.named) (name_of_methodNamed Bd.named Bd.method).1 hZ (Stand.of_body Bd) (by rw [← hh, Bd.state]; rfl)
/-- a callee, as a call asks it -/
def own_Bk (l : Launch) (R : Room) (p : Program) (e : Env) (below : List Frame) (s : State) (args : Array Value) (y : MethodName) (len W : Nat) (as' : Array Value) (h : Heap) (kc ks : Nat) (Q : Option Value → Heap → List Loc → Prop) : Prop :=
  Back l R p e below s args y len W (fun A a => a = as' ∧ A.U.heap = h ∧ A.cells + kc ≤ R.cells ∧ A.slots + ks ≤ R.slots) (fun A _ v B => ∃ L, Q v B.U.heap L ∧ B.locs = A.locs ++ L ∧ B.cells = A.cells + kc ∧ B.slots = A.slots + ks)
theorem own_back {y : MethodName} {bytes : ByteArray} {maxL : Nat} {ret : Option FieldType} {rm : Room} {len W : Nat} {as' : Array Value} (hM : own_Met l Z [] y bytes maxL ret rm as' h Q) (hZ : Z.Warmed39 s.vm) (wc : (Cond.code y bytes maxL ret).before a0 Z = true) (wz : (Cond.initialized y.cls).before a0 Z = true) (hf : rm.frames + 1 ≤ R.frames) (hl : W + (maxL + 11) + rm.locals ≤ R.locals) :
    own_Bk l R p e below s args y len W as' h rm.cells rm.slots Q := backOf hM hZ wc wz hf hl
theorem own_callS (X : Stand p l e R s m args below meth c T locs cells slots) (hx : p.tables.exec = Jvm.exec) (hZ : Z.Warmed39 s.vm) {own : String} {index : Nat} {y : MethodName} {bytes : ByteArray} {maxL : Nat} {ret : Option FieldType} {W kc ks : Nat} {as' : Array Value}
    (hown : s.vm.findClass own = some m.cls) (w1 : (Cond.methodLink own index y).before a0 Z = true) (w2 : (Cond.static y).before a0 Z = true) (w3 : (Cond.initialized y.cls).before a0 Z = true) (w4 : (Cond.code y bytes maxL ret).before a0 Z = true)
    (hK : own_Bk l R p e below s args y 3 W as' h kc ks Q) (hy : y.cls ≠ "java/lang/invoke/MethodHandle" ∧ y.cls ≠ "java/lang/invoke/VarHandle") (hg : g.method = m) (hsize : g.locals.size = c.maxLocals) {argsL rest : List Value}
    (hlen : ∀ sig, parseMethodDescriptor y.desc = some sig → argsL.length = sig.parameters.length) (hstack : g.stack = argsL.reverse ++ rest) (hW : 2 * g.monitorRoom + (rest.map fun v => v.category).sum ≤ W) (hd : decode c.code g.pc = .ok (.invokestatic index, 3))
    (ha : argsL.toArray = as') (eT : T.heap = h) (hc : cells + kc ≤ R.cells) (hs : slots + ks ≤ R.slots)
    (k : ∀ v T' L, Stand p l e R s m args below meth c T' (locs ++ L) (cells + kc) (slots + ks) → Q v T'.heap L → oG p e below P T' { g with pc := g.pc + 3, stack := v.toList ++ rest }) : oG p e below P T g := by
  obtain ⟨v, _, ⟨T1, L1, k1, n1⟩, -, X1, ⟨Lc, hQ, l1, y1, z1⟩, st⟩ := Jvm.LawKit.callS X hx hown (mvT hZ w1) (mvT hZ w2) (mvT hZ w3) (mvT hZ w4) hy hK hg hsize hlen hstack hW hd (fun _ _ => ⟨ha, eT, hc, hs⟩)
  dsimp only [Pt.U, Pt.locs, Pt.cells, Pt.slots] at X1 l1 y1 z1 st hQ
  subst l1 y1 z1
  exact oS st (k v T1 Lc X1 hQ)
theorem own_callI (X : Stand p l e R s m args below meth c T locs cells slots) (hx : p.tables.exec = Jvm.exec) (hZ : Z.Warmed39 s.vm) {own : String} {index : Nat} {y : MethodName} {bytes : ByteArray} {maxL W kc ks : Nat} {as' : Array Value}
    (hy1 : y.name = "<init>") (hown : s.vm.findClass own = some m.cls) (w1 : (Cond.methodLink own index y).before a0 Z = true) (w2 : (Cond.instanceMethod y).before a0 Z = true) (w4 : (Cond.code y bytes maxL none).before a0 Z = true)
    (hK : own_Bk l R p e below s args y 3 W as' h kc ks Q) (hy : y.cls ≠ "java/lang/invoke/MethodHandle" ∧ y.cls ≠ "java/lang/invoke/VarHandle") (hg : g.method = m) (hsize : g.locals.size = c.maxLocals) {a : Addr} {argsL rest : List Value}
    (hlen : ∀ sig, parseMethodDescriptor y.desc = some sig → argsL.length = sig.parameters.length) (hstack : g.stack = argsL.reverse ++ .ref a :: rest) (hW : 2 * g.monitorRoom + (rest.map fun v => v.category).sum ≤ W) (hd : decode c.code g.pc = .ok (.invokespecial index, 3))
    (ha : (.ref a :: argsL).toArray = as') (eT : T.heap = h) (hc : cells + kc ≤ R.cells) (hs : slots + ks ≤ R.slots)
    (k : ∀ v T' L, Stand p l e R s m args below meth c T' (locs ++ L) (cells + kc) (slots + ks) → Q v T'.heap L → oG p e below P T' { g with pc := g.pc + 3, stack := v.toList ++ rest }) : oG p e below P T g := by
  obtain ⟨v, _, ⟨T1, L1, k1, n1⟩, -, X1, ⟨Lc, hQ, l1, y1, z1⟩, st⟩ := X.specialBack hx hy1 hown (mvT hZ w1) (mvT hZ w2) (mvT hZ w4) hy hK hg hsize (Steps.refl _) hlen hstack hW hd (fun _ _ => ⟨ha, eT, hc, hs⟩)
  dsimp only [Pt.U, Pt.locs, Pt.cells, Pt.slots] at X1 l1 y1 z1 st hQ
  subst l1 y1 z1
  exact own_tr st (k v T1 Lc X1 hQ)
theorem own_callV (X : Stand p l e R s m args below meth c T locs cells slots) (hx : p.tables.exec = Jvm.exec) (hZ : Z.Warmed39 s.vm) {own : String} {index : Nat} {y : MethodName} {W kc ks : Nat} {as' : Array Value}
    (hown : s.vm.findClass own = some m.cls) (w1 : (Cond.methodLink own index y).before a0 Z = true) (w2 : (Cond.declares y).before a0 Z = true) (w3 : (Cond.selects y.cls y y).before a0 Z = true) (w4 : (Cond.instanceMethod y).before a0 Z = true)
    (hK : own_Bk l R p e below s args y 3 W as' h kc ks Q) (hy : y.cls ≠ "java/lang/invoke/MethodHandle" ∧ y.cls ≠ "java/lang/invoke/VarHandle") {b : Addr} (E : Exa Z h b y.cls) (hg : g.method = m) (hsize : g.locals.size = c.maxLocals) {argsL rest : List Value}
    (hlen : ∀ sig, parseMethodDescriptor y.desc = some sig → argsL.length = sig.parameters.length) (hstack : g.stack = argsL.reverse ++ .ref b :: rest) (hW : 2 * g.monitorRoom + (rest.map fun v => v.category).sum ≤ W) (hd : decode c.code g.pc = .ok (.invokevirtual index, 3))
    (ha : (.ref b :: argsL).toArray = as') (eT : T.heap = h) (hc : cells + kc ≤ R.cells) (hs : slots + ks ≤ R.slots)
    (k : ∀ v T' L, Stand p l e R s m args below meth c T' (locs ++ L) (cells + kc) (slots + ks) → Q v T'.heap L → oG p e below P T' { g with pc := g.pc + 3, stack := v.toList ++ rest }) : oG p e below P T g := by
  obtain ⟨cq, kq, qa, qb, qc⟩ := isOf hZ eT E
  obtain ⟨v, _, ⟨T1, L1, k1, n1⟩, -, X1, ⟨Lc, hQ, l1, y1, z1⟩, st⟩ := X.virtualBack hx (y := y) (z := y) hown (mvT hZ w1) (mvT hZ w2) (notFace_of_selects (args := #[]) (mvT hZ w3)) (mvT hZ w3) (mvT hZ w4) hy hK qa qc hg hsize (Steps.refl _) hlen hstack hW hd (fun _ _ => ⟨ha, eT, hc, hs⟩)
  dsimp only [Pt.U, Pt.locs, Pt.cells, Pt.slots] at X1 l1 y1 z1 st hQ
  subst l1 y1 z1
  exact own_tr st (k v T1 Lc X1 hQ)
theorem own_Bk.mono {y : MethodName} {len W kc ks : Nat} {as' : Array Value} {Q' : Option Value → Heap → List Loc → Prop} (hK : own_Bk l R p e below s args y len W as' h kc ks Q) (q : ∀ v h' L, Q v h' L → Q' v h' L) : own_Bk l R p e below s args y len W as' h kc ks Q' :=
  Back.mono hK (fun _ _ h => h) (fun _ _ _ _ _ ⟨L, h1, h2⟩ => ⟨L, q _ _ _ h1, h2⟩)
theorem own_Bk.more {y : MethodName} {len W kc ks kc' ks' : Nat} {as' : Array Value} (hK : own_Bk l R p e below s args y len W as' h kc ks Q) (h1 : kc ≤ kc') (h2 : ks ≤ ks') : own_Bk l R p e below s args y len W as' h kc' ks' Q :=
  fun m meth c A g ig mk a X hg hsize hdg hW hn hp => by
    obtain ⟨v, B, X', ⟨L, q, q1, q2, q3⟩, st⟩ := hK m meth c A g ig mk a X hg hsize hdg hW hn ⟨hp.1, hp.2.1, Nat.le_trans (Nat.add_le_add_left h1 _) hp.2.2.1, Nat.le_trans (Nat.add_le_add_left h2 _) hp.2.2.2⟩
    exact ⟨v, ⟨B.U, B.locs, A.cells + kc', A.slots + ks'⟩, X'.mono (by rw [q2]; exact Nat.add_le_add_left h1 _) (by rw [q3]; exact Nat.add_le_add_left h2 _), ⟨L, q, q1, rfl, rfl⟩, st⟩
theorem oW {L : List Cond} (hw : ∀ d ∈ L, d.before a0 Z = true) (i : Nat) {d : Cond} (h : L[i]? = some d) : d.before a0 Z = true := hw d (List.mem_of_getElem? h)
theorem own_cat {v : Value} (h : v.isRef = true) : v.category = 1 := by cases v <;> simp [Value.isRef, Value.category] at h ⊢
end OwnGo
end Jvm.RoadKit
namespace Jvm.RoadKit
open Sem ClassFile Op Lib Bundle Jvm.Stand Jvm.Free Jvm.LawKit Jvm.Free.SB Jvm.Free.SBG
section OwnH
variable {p : Program} {l : Launch} {e : Env} {R : Room} {s : State} {m : MethodId} {args : Array Value} {below : List Frame} {meth : Method} {c : Code} {T T' : State} {f f' g : JFrame} {locs : List Loc} {cells slots : Nat} {P : Outcome → State → Prop} {Q : Option Value → Heap → List Loc → Prop} {C N : Nat} {Z : State} {a0 : Array Value} {h : Heap} {EL : List (String × Nat)} {vm0 : Vm} {k0 : Nat}
def own_PH (Z : State) (EL : List (String × Nat)) (s : State) (Q : Option Value → Heap → List Loc → Prop) (C N : Nat) (o : Outcome) (U' : State) : Prop := ∃ v L, o = .returned v ∧ Q v U'.heap L ∧ CHr Z EL s.vm s.heap U'.vm U'.heap ∧ ReturnedEndW s o U' L C N
/-- what a walk that may load literals knows: the tables now (vm0), how they came from the start's, the held literals -/
def own_Kn (Z : State) (EL : List (String × Nat)) (a0 : Array Value) (s : State) (vm0 : Vm) (h : Heap) : Prop := Z.Warmed39 vm0 ∧ EW Z a0 EL ∧ CHr Z EL s.vm s.heap vm0 h ∧ ∃ k0, s.Since vm0 k0 ∧ k0 ≤ h.size
theorem own_Kn.ext {h' : Heap} (K : own_Kn Z EL a0 s vm0 h) (E : Ext h h') : own_Kn Z EL a0 s vm0 h' := ⟨K.1, K.2.1, K.2.2.1.trans (CHr.ext E K.2.2.1.1), by obtain ⟨k0, q, r⟩ := K.2.2.2; exact ⟨k0, q, Nat.le_trans r E.1⟩⟩
theorem own_Kn.wr {h' : Heap} {a : Addr} {sl : Nat} {v : Value} (K : own_Kn Z EL a0 s vm0 h) (W : Wr h h' a sl v) (S : Safe Z EL vm0 h a) : own_Kn Z EL a0 s vm0 h' := ⟨K.1, K.2.1, K.2.2.1.trans (CHr.wr W S K.2.2.1.1), by obtain ⟨k0, q, r⟩ := K.2.2.2; exact ⟨k0, q, by rw [W.size]; exact r⟩⟩
theorem own_Kn.keep {h' : Heap} {ws : List Addr} (K : own_Kn Z EL a0 s vm0 h) (W : Keep h h' ws) (S : ∀ x ∈ ws, Safe Z EL vm0 h x) : own_Kn Z EL a0 s vm0 h' := ⟨K.1, K.2.1, K.2.2.1.trans (CHr.keep W S K.2.2.1.1), by obtain ⟨k0, q, r⟩ := K.2.2.2; exact ⟨k0, q, Nat.le_trans r W.1⟩⟩
theorem own_retH {v : Option Value} (X : Stand p l e R (s.setVm vm0) m args below meth c T locs cells slots) (K : own_Kn Z EL a0 s vm0 h) (eT : T.heap = h) (hlocks : meth.locks = false) (hv : meth.sig.returnType = none → v = none) (hq : Q v h locs) (hC : cells ≤ C) (hN : slots ≤ N)
    (hst : ∀ fs, (∀ (f : JFrame) (acts : List Action), f.method = m → f.locked = none → f.entered = [] → (doReturn e (T.setTop f) acts v).1 = T.setFrames fs) → Steps p.tables e below (T.setTop g) (T.setFrames fs)) : oG p e below (own_PH Z EL s Q C N) T g := by
  obtain ⟨hZ, hE, hR, k0, hS, hk⟩ := K
  subst eT
  obtain ⟨fs, hr, hrun, hended, hW⟩ := X.leaveW hS hk hv hlocks
  have q : CHr Z EL vm0 T.heap T.vm T.heap := CHv.at X hZ hE hR.1
  have q2 := hR.trans q
  exact ⟨_, _, hst fs hr, hrun, hended, _, _, rfl, hq, q2, hW.1, hW.2.1, hW.2.2.1, hW.2.2.2.mono hC hN⟩
theorem own_retHN {pc : Nat} {Ls : Array Slot} {z : Int32} {t : FieldType} {rest : List Value} (X : Stand p l e R (s.setVm vm0) m args below meth c T locs cells slots) (K : own_Kn Z EL a0 s vm0 h) (eT : T.heap = h) (hx : p.tables.exec = Jvm.exec) (hlocks : meth.locks = false) (hret : meth.sig.returnType = some t) (ht : t = .boolean ∨ t = .byte ∨ t = .char ∨ t = .short)
    (hd : decode c.code pc = .ok (.ireturn, 1)) (hq : Q (some (.int (nar t z))) h locs) (hC : cells ≤ C) (hN : slots ≤ N) : oG p e below (own_PH Z EL s Q C N) T (mkF m pc Ls (.int z :: rest)) :=
  own_retH X K eT hlocks (fun h => by rw [hret] at h; cases h) hq hC hN (fun fs hr => retN X hx hret ht hd hr)
theorem own_retHA {pc : Nat} {Ls : Array Slot} {v : Value} {t : FieldType} {rest : List Value} (X : Stand p l e R (s.setVm vm0) m args below meth c T locs cells slots) (K : own_Kn Z EL a0 s vm0 h) (eT : T.heap = h) (hx : p.tables.exec = Jvm.exec) (hlocks : meth.locks = false) (hret : meth.sig.returnType = some t) (ht : t.isReference = true) (hv : v.isRef = true)
    (hd : decode c.code pc = .ok (.areturn, 1)) (hq : Q (some v) h locs) (hC : cells ≤ C) (hN : slots ≤ N) : oG p e below (own_PH Z EL s Q C N) T (mkF m pc Ls (v :: rest)) :=
  own_retH X K eT hlocks (fun h => by rw [hret] at h; cases h) hq hC hN (fun fs hr => by
    have hm' : T.vm.method? m = some meth := X.method'
    show Steps p.tables e below (T.setTop { method := m, pc := pc, locals := Ls, stack := _ :: rest, locked := none }) _
    jvm_step X.here [X.here.top, hx, hd, hm', hret, hv, ht]
    first | (intro acts; rw [hr _ acts rfl rfl rfl]) | rw [hr _ _ rfl rfl rfl]
    exact Steps.refl _)
theorem own_retHV {pc : Nat} {Ls : Array Slot} (X : Stand p l e R (s.setVm vm0) m args below meth c T locs cells slots) (K : own_Kn Z EL a0 s vm0 h) (eT : T.heap = h) (hx : p.tables.exec = Jvm.exec) (hlocks : meth.locks = false) (hret : meth.sig.returnType = none)
    (hd : decode c.code pc = .ok (.return_, 1)) (hq : Q none h locs) (hC : cells ≤ C) (hN : slots ≤ N) : oG p e below (own_PH Z EL s Q C N) T (mkF m pc Ls []) :=
  own_retH X K eT hlocks (fun _ => rfl) hq hC hN (fun fs hr => X.returnOut hx hret hd hr)
def own_MetH (l : Launch) (Z : State) (EL : List (String × Nat)) (ws : List Cond) (y : MethodName) (bytes : ByteArray) (ml : Nat) (ret : Option FieldType) (rm : Room) (as' : Array Value) (h : Heap) (Q : Option Value → Heap → List Loc → Prop) (Pv : Vm → Prop) : Prop :=
  MetFree l y (head1 (Cond.code y bytes ml ret :: ws) rm) (fun a U => a = as' ∧ Z.Warmed39 U.vm ∧ U.heap = h ∧ CHv Z EL U.vm h ∧ Pv U.vm) (fun _ _ _ _ _ => True) (fun _ U o U' => ∃ v L, o = .returned v ∧ Q v U'.heap L ∧ CHr Z EL U.vm U.heap U'.vm U'.heap ∧ ReturnedEndW U o U' L rm.cells rm.slots)
theorem own_bodyH {ws : List Cond} {y : MethodName} {bytes : ByteArray} {ml : Nat} {ret : Option FieldType} {rm : Room} {as' : Array Value} {Pv : Vm → Prop} (hpn : plainFor y = true) (hE : EW Z a0 EL)
    (body : ∀ (p : Program) (e : Env) (s : State) (m : MethodId) (below : List Frame) (meth : Method) (c : Code) (s₁ : State), p.tables.exec = Jvm.exec → c.code = bytes → c.maxLocals = ml → meth.sig.returnType = ret → meth.locks = false → s.vm.findClass y.cls = some m.cls → meth.name = y.name →
      Stand p l e rm (s.setVm s.vm) m as' below meth c s₁ [] 0 0 → s₁.heap = h → own_Kn Z EL a0 s s.vm h → Pv s.vm → oG p e below (own_PH Z EL s Q rm.cells rm.slots) s₁ (entryFrame m as' ml)) : own_MetH l Z EL ws y bytes ml ret rm as' h Q Pv := by
  refine MetFree.of_bodySF hpn hisR ?_
  intro p e s m args below meth c s₁ Bd hml0 hP hK
  obtain ⟨rfl, hZ, hh, hC, hv⟩ := hP
  subst hh
  exact body p e s m below meth c s₁ Bd.exec Bd.bytes hml0 Bd.returns Bd.notSynchronized (findClass_of_methodNamed Bd.named) (name_of_methodNamed Bd.named Bd.method).1 (Stand.of_body Bd) (by rw [Bd.state]; rfl) ⟨hZ, hE, CHr.refl hC, _, (State.WarmedH.refl s).since _, Nat.le_refl _⟩ hv
def own_BkH (Z : State) (EL : List (String × Nat)) (l : Launch) (R : Room) (p : Program) (e : Env) (below : List Frame) (s : State) (vm0 : Vm) (args : Array Value) (y : MethodName) (len W : Nat) (as' : Array Value) (h : Heap) (kc ks : Nat) (Q : Option Value → Heap → List Loc → Prop) : Prop :=
  BackS l R p e below (s.setVm vm0) args y len W (fun A a => a = as' ∧ A.U.heap = h ∧ A.cells + kc ≤ R.cells ∧ A.slots + ks ≤ R.slots) (fun A _ v B => ∃ L, Q v B.U.heap L ∧ B.locs = A.locs ++ L ∧ B.cells = A.cells + kc ∧ B.slots = A.slots + ks ∧ CHr Z EL vm0 h B.U.vm B.U.heap)
theorem own_backH {y : MethodName} {bytes : ByteArray} {maxL : Nat} {ret : Option FieldType} {rm : Room} {len W : Nat} {as' : Array Value} {Pv : Vm → Prop} (hM : own_MetH l Z EL [] y bytes maxL ret rm as' h Q Pv) (K : own_Kn Z EL a0 s vm0 h) (hv : ∀ vm', CHr Z EL vm0 h vm' h → Pv vm')
    (wc : (Cond.code y bytes maxL ret).before a0 Z = true) (wz : (Cond.initialized y.cls).before a0 Z = true) (hf : rm.frames + 1 ≤ R.frames) (hl : W + (maxL + 11) + rm.locals ≤ R.locals) : own_BkH Z EL l R p e below s vm0 args y len W as' h rm.cells rm.slots Q := by
  obtain ⟨hZ, hEL, hR, -⟩ := K
  have H := hR.1
  exact BackS.of_freeW (bytes := bytes) (maxL := maxL) (ret := ret) (E := fun _ first o t L k n => k = rm.cells ∧ n = rm.slots ∧ (∃ v, o = .returned v ∧ Q v t.heap L) ∧ CHr Z EL first.vm first.heap t.vm t.heap) hM hf hl
    (fun m meth c A a Y hp => have hU : Z.Warmed39 A.U.vm := wtrans (s := s.setVm vm0) hZ Y.warmed
      ⟨by show (Cond.and _ .tt).before a A.U = true; rw [Cond.before_and, mv hU wc]; rfl, mv hU wc, mv hU wz, hp.2.2.1, hp.2.2.2⟩)
    (fun m meth c A a g mk Y hp => have q : CHr Z EL vm0 h A.U.vm h := CHv.at Y hZ hEL H
      have q' := hv A.U.vm q
      ⟨hp.1, wtrans (s := s.setVm vm0) hZ Y.warmed, hp.2.1, q.1, q'⟩) (fun _ _ _ _ _ _ _ _ _ => trivial)
    (fun _ _ _ _ ⟨v, L, h1, h2, h3, h4⟩ => ⟨L, _, _, h4, rfl, rfl, ⟨v, h1, h2⟩, h3⟩)
    (fun m meth c A a g mk v t L k n Y hp _ _ ⟨e1, e2, ⟨v', e3, e4⟩, e5⟩ => by
      cases e3; subst e1 e2
      refine ⟨L, e4, rfl, rfl, rfl, (CHv.at Y hZ hEL H).trans ?_⟩
      rw [← hp.2.1]; exact e5)
theorem own_Kn.call {own : String} {mc : ClassId} {T' : State} (K : own_Kn Z EL a0 s vm0 T.heap) (hown : vm0.findClass own = some mc) (h2 : (s.setVm vm0).Since T'.vm T'.heap.size) (g : T.heap.size ≤ T'.heap.size) (q : CHr Z EL vm0 T.heap T'.vm T'.heap) : own_Kn Z EL a0 s T'.vm T'.heap ∧ T'.vm.findClass own = some mc := by
  obtain ⟨hZ, hEL, hR, k0, hS, hk⟩ := K
  exact ⟨⟨State.Warmed39.trans (t := s.setVm vm0) hZ h2.1, hEL, hR.trans q, _, foldS hS hk h2 g, Nat.le_refl _⟩, by rw [h2.1.alike.findClass]; exact hown⟩
theorem own_callSH (X : Stand p l e R (s.setVm vm0) m args below meth c T locs cells slots) (hx : p.tables.exec = Jvm.exec) (K : own_Kn Z EL a0 s vm0 h) {own : String} {index : Nat} {y : MethodName} {bytes : ByteArray} {maxL : Nat} {ret : Option FieldType} {W kc ks : Nat} {as' : Array Value}
    (hown : vm0.findClass own = some m.cls) (w1 : (Cond.methodLink own index y).before a0 Z = true) (w2 : (Cond.static y).before a0 Z = true) (w3 : (Cond.initialized y.cls).before a0 Z = true) (w4 : (Cond.code y bytes maxL ret).before a0 Z = true)
    (hK : own_BkH Z EL l R p e below s vm0 args y 3 W as' h kc ks Q) (hy : y.cls ≠ "java/lang/invoke/MethodHandle" ∧ y.cls ≠ "java/lang/invoke/VarHandle") (hg : g.method = m) (hsize : g.locals.size = c.maxLocals) {argsL rest : List Value}
    (hlen : ∀ sig, parseMethodDescriptor y.desc = some sig → argsL.length = sig.parameters.length) (hstack : g.stack = argsL.reverse ++ rest) (hW : 2 * g.monitorRoom + (rest.map fun v => v.category).sum ≤ W) (hd : decode c.code g.pc = .ok (.invokestatic index, 3))
    (ha : argsL.toArray = as') (eT : T.heap = h) (hc : cells + kc ≤ R.cells) (hs : slots + ks ≤ R.slots)
    (k : ∀ v T' L, Stand p l e R (s.setVm T'.vm) m args below meth c T' (locs ++ L) (cells + kc) (slots + ks) → Q v T'.heap L → own_Kn Z EL a0 s T'.vm T'.heap → T'.vm.findClass own = some m.cls → CHr Z EL vm0 h T'.vm T'.heap → oG p e below P T' { g with pc := g.pc + 3, stack := v.toList ++ rest }) : oG p e below P T g := by
  have hZ : Z.Warmed39 (s.setVm vm0).vm := K.1
  obtain ⟨v, _, ⟨T1, L1, k1, n1⟩, -, X1, S1, G1, ⟨Lc, hQ, l1, y1, z1, hR⟩, st⟩ := callSS X hx hown (mvT hZ w1) (mvT hZ w2) (mvT hZ w3) (mvT hZ w4) hy hK hg hsize hlen hstack hW hd (fun _ _ => ⟨ha, eT, hc, hs⟩)
  dsimp only [Pt.U, Pt.locs, Pt.cells, Pt.slots] at X1 l1 y1 z1 st hQ S1 G1 hR
  subst l1 y1 z1 eT
  obtain ⟨q1, q2⟩ := K.call hown S1 G1 hR
  exact own_tr st (k v T1 Lc X1 hQ q1 q2 hR)
theorem own_callIH (X : Stand p l e R (s.setVm vm0) m args below meth c T locs cells slots) (hx : p.tables.exec = Jvm.exec) (K : own_Kn Z EL a0 s vm0 h) {own : String} {index : Nat} {y : MethodName} {bytes : ByteArray} {maxL W kc ks : Nat} {as' : Array Value}
    (hy1 : y.name = "<init>") (hown : vm0.findClass own = some m.cls) (w1 : (Cond.methodLink own index y).before a0 Z = true) (w2 : (Cond.instanceMethod y).before a0 Z = true) (w4 : (Cond.code y bytes maxL none).before a0 Z = true)
    (hK : own_BkH Z EL l R p e below s vm0 args y 3 W as' h kc ks Q) (hy : y.cls ≠ "java/lang/invoke/MethodHandle" ∧ y.cls ≠ "java/lang/invoke/VarHandle") (hg : g.method = m) (hsize : g.locals.size = c.maxLocals) {a : Addr} {argsL rest : List Value}
    (hlen : ∀ sig, parseMethodDescriptor y.desc = some sig → argsL.length = sig.parameters.length) (hstack : g.stack = argsL.reverse ++ .ref a :: rest) (hW : 2 * g.monitorRoom + (rest.map fun v => v.category).sum ≤ W) (hd : decode c.code g.pc = .ok (.invokespecial index, 3))
    (ha : (.ref a :: argsL).toArray = as') (eT : T.heap = h) (hc : cells + kc ≤ R.cells) (hs : slots + ks ≤ R.slots)
    (k : ∀ v T' L, Stand p l e R (s.setVm T'.vm) m args below meth c T' (locs ++ L) (cells + kc) (slots + ks) → Q v T'.heap L → own_Kn Z EL a0 s T'.vm T'.heap → T'.vm.findClass own = some m.cls → CHr Z EL vm0 h T'.vm T'.heap → oG p e below P T' { g with pc := g.pc + 3, stack := v.toList ++ rest }) : oG p e below P T g := by
  have hZ : Z.Warmed39 (s.setVm vm0).vm := K.1
  obtain ⟨v, _, ⟨T1, L1, k1, n1⟩, -, X1, S1, G1, ⟨Lc, hQ, l1, y1, z1, hR⟩, st⟩ := X.specialBackS hx hy1 hown (mvT hZ w1) (mvT hZ w2) (mvT hZ w4) hy hK hg hsize (Steps.refl _) hlen hstack hW hd (fun _ _ => ⟨ha, eT, hc, hs⟩)
  dsimp only [Pt.U, Pt.locs, Pt.cells, Pt.slots] at X1 l1 y1 z1 st hQ S1 G1 hR
  subst l1 y1 z1 eT
  obtain ⟨q1, q2⟩ := K.call hown S1 G1 hR
  exact own_tr st (k v T1 Lc X1 hQ q1 q2 hR)
theorem own_callVH (X : Stand p l e R (s.setVm vm0) m args below meth c T locs cells slots) (hx : p.tables.exec = Jvm.exec) (K : own_Kn Z EL a0 s vm0 h) {own : String} {index : Nat} {y : MethodName} {W kc ks : Nat} {as' : Array Value}
    (hown : vm0.findClass own = some m.cls) (w1 : (Cond.methodLink own index y).before a0 Z = true) (w2 : (Cond.declares y).before a0 Z = true) (w3 : (Cond.selects y.cls y y).before a0 Z = true) (w4 : (Cond.instanceMethod y).before a0 Z = true)
    (hK : own_BkH Z EL l R p e below s vm0 args y 3 W as' h kc ks Q) (hy : y.cls ≠ "java/lang/invoke/MethodHandle" ∧ y.cls ≠ "java/lang/invoke/VarHandle") {b : Addr} (E : Exa Z h b y.cls) (hg : g.method = m) (hsize : g.locals.size = c.maxLocals) {argsL rest : List Value}
    (hlen : ∀ sig, parseMethodDescriptor y.desc = some sig → argsL.length = sig.parameters.length) (hstack : g.stack = argsL.reverse ++ .ref b :: rest) (hW : 2 * g.monitorRoom + (rest.map fun v => v.category).sum ≤ W) (hd : decode c.code g.pc = .ok (.invokevirtual index, 3))
    (ha : (.ref b :: argsL).toArray = as') (eT : T.heap = h) (hc : cells + kc ≤ R.cells) (hs : slots + ks ≤ R.slots)
    (k : ∀ v T' L, Stand p l e R (s.setVm T'.vm) m args below meth c T' (locs ++ L) (cells + kc) (slots + ks) → Q v T'.heap L → own_Kn Z EL a0 s T'.vm T'.heap → T'.vm.findClass own = some m.cls → CHr Z EL vm0 h T'.vm T'.heap → oG p e below P T' { g with pc := g.pc + 3, stack := v.toList ++ rest }) : oG p e below P T g := by
  have hZ : Z.Warmed39 (s.setVm vm0).vm := K.1
  obtain ⟨cq, kq, qa, qb, qc⟩ := isOf hZ eT E
  obtain ⟨v, _, ⟨T1, L1, k1, n1⟩, -, X1, S1, G1, ⟨Lc, hQ, l1, y1, z1, hR⟩, st⟩ := X.virtualBackS hx (y := y) (z := y) hown (mvT hZ w1) (mvT hZ w2) (notFace_of_selects (args := #[]) (mvT hZ w3)) (mvT hZ w3) (mvT hZ w4) hy hK qa qc hg hsize (Steps.refl _) hlen hstack hW hd (fun _ _ => ⟨ha, eT, hc, hs⟩)
  dsimp only [Pt.U, Pt.locs, Pt.cells, Pt.slots] at X1 l1 y1 z1 st hQ S1 G1 hR
  subst l1 y1 z1 eT
  obtain ⟨q1, q2⟩ := K.call hown S1 G1 hR
  exact own_tr st (k v T1 Lc X1 hQ q1 q2 hR)
theorem own_ldc (X : Stand p l e R (s.setVm vm0) m args below meth c T locs cells slots) (hx : p.tables.exec = Jvm.exec) (K : own_Kn Z EL a0 s vm0 h) {own text : String} {index : Nat} (hown : vm0.findClass own = some m.cls) (w : (Cond.stringLink own index text).before a0 Z = true) (wS : ∀ a ∈ Bundle.stringAtoms, a.before a0 Z = true)
    (eT : T.heap = h) (hmem : (own, index) ∈ EL) {vs : List Value} {z : Int32} (ht : (∀ c ∈ text.toList, c.toNat < 256) ∧ text.toList.map (fun c => Value.int (Jvm.Lit.byteI c.toNat.toUInt16)) = vs) (hz : ¬ z < 0) (hl : z.toNatClampNeg = vs.length)
    (hg : g.method = m) (hd : decode c.code g.pc = .ok (.ldc index, 2)) {n : Nat} (hn : 4 * text.toList.length ≤ n) (hbig : n ≤ 536870912) (hc : cells + 2 ≤ R.cells) (hl' : slots + (n + 4) ≤ R.slots)
    (k : ∀ (a : Addr) (T' : State) (b : Addr) (kb : ClassId), Stand p l e R (s.setVm T'.vm) m args below meth c T' locs (cells + 2) (slots + (n + 4)) → Ext h T'.heap → own_Kn Z EL a0 s T'.vm T'.heap → T'.vm.findClass own = some m.cls → CHr Z EL vm0 h T'.vm T'.heap →
      Exa Z T'.heap a "java/lang/String" → Fld Z T'.heap a "java/lang/String" "coder" "B" (.int 0) → Fld Z T'.heap a "java/lang/String" "value" "[B" (.ref b) → Arv Z T'.heap b kb .byte z vs (.int 0) → (∀ x, Safe Z EL T'.vm T'.heap x → x ≠ a ∧ x ≠ b) → oG p e below P T' { g with pc := g.pc + 2, stack := .ref a :: g.stack }) : oG p e below P T g := by
  obtain ⟨hZ, hEL, hR, k0, hS, hk⟩ := K
  obtain ⟨a, T', h', k1, b, kb, X', e', E', S', hk', hZ', hown', A1, A2, A3, A4, -, -, R', -, sf, st⟩ := ldcCH X hx hZ hown w wS eT hS hk hEL hmem hR.1 ht hz hl hg hd hn hbig hc hl'
  subst e'
  exact oS st (k a T' b kb X' E' ⟨hZ', hEL, hR.trans R', _, S', hk'⟩ hown' R' A1 A2 A3 A4 sf)
end OwnH
end Jvm.RoadKit
namespace Jvm.RoadKit
open Sem ClassFile Op Lib Jvm.Stand Jvm.Free Jvm.LawKit
section OwnV
variable {p : Program} {l : Launch} {e : Env} {R : Room} {s : State} {m : MethodId} {args : Array Value} {below : List Frame} {meth : Method} {c : Code} {T T' : State} {f f' g : JFrame} {locs : List Loc} {cells slots : Nat} {P : Outcome → State → Prop} {Q : Option Value → Heap → List Loc → Prop} {C N : Nat} {Z : State} {a0 : Array Value} {h : Heap}
theorem own_decl {y : MethodName} {bytes : ByteArray} {maxL : Nat} {ret : Option FieldType} (w : (Cond.instanceMethod y).before a0 Z = true) (wc : (Cond.code y bytes maxL ret).before a0 Z = true) : (Cond.declares y).before a0 Z = true := by
  obtain ⟨mk, methM, hnamed, hmethM, hstM, -⟩ := Cond.instanceMethod_spec w
  obtain ⟨m2, cM, q1, -, -, -, -, -, -, hsig⟩ := Cond.code_spec hnamed wc
  cases hmethM.symm.trans q1
  simp [Cond.before, Cond.holds, Cond.value, hnamed, hmethM, hstM, hsig]
/-- the class of y' is no interface, so y's, the same class, is none -/
theorem own_nf {C' : String} {y y' : MethodName} (w : (Cond.selects C' y' y').before a0 Z = true) (hc : y.cls = y'.cls) (hZ : Z.Warmed39 s.vm) : NotFace s y := fun r0 h0 => by
  obtain ⟨c2, r2, m2, q1, q2, q3, q4, kP, hkP, hkPi⟩ := Cond.selects_spec (mvT (args := #[]) hZ w)
  have a1 := findClass_of_methodNamed h0
  have a2 := findClass_of_methodNamed q3
  rw [hc] at a1
  exact ⟨kP, by rw [Option.some.inj (a1.symm.trans a2)]; exact hkP, hkPi⟩
theorem own_same {C' : String} {y y' : MethodName} (w : (Cond.selects C' y' y').before a0 Z = true) (hc : y.cls = y'.cls) (wi : (Cond.instanceMethod y).before a0 Z = true) (hy : y.cls ≠ "java/lang/invoke/MethodHandle" ∧ y.cls ≠ "java/lang/invoke/VarHandle") : (Cond.sameMethod y.cls y.cls y.name y.desc).before a0 Z = true := by
  obtain ⟨mk, methM, hnamed, hmethM, hstM, -⟩ := Cond.instanceMethod_spec wi
  obtain ⟨c2, r2, m2, q1, q2, q3, q4, kP, hkP, hkPi⟩ := Cond.selects_spec w
  have a1 := findClass_of_methodNamed hnamed
  have a2 := findClass_of_methodNamed q3
  have a3 : Z.vm.findClass y.cls = some m2.cls := by rw [hc]; exact a2
  have hf := State.methodFound?_of_named hnamed hy
  have hnamed' : Z.methodNamed? ⟨y.cls, y.name, y.desc⟩ = some mk := hnamed
  simp [Cond.before, Cond.holds, Cond.value, a3, hf, hnamed', hkP, hkPi]
theorem own_callVC (X : Stand p l e R s m args below meth c T locs cells slots) (hx : p.tables.exec = Jvm.exec) (hZ : Z.Warmed39 s.vm) {own C' : String} {index : Nat} {y z : MethodName} {W kc ks : Nat} {as' : Array Value}
    (hown : s.vm.findClass own = some m.cls) (w1 : (Cond.methodLink own index y).before a0 Z = true) (w2 : (Cond.declares y).before a0 Z = true) (hnf : NotFace s y) (w3 : (Cond.selects C' y z).before a0 Z = true) (w4 : (Cond.instanceMethod z).before a0 Z = true)
    (hK : own_Bk l R p e below s args z 3 W as' h kc ks Q) (hy : y.cls ≠ "java/lang/invoke/MethodHandle" ∧ y.cls ≠ "java/lang/invoke/VarHandle") {b : Addr} (E : Exa Z h b C') (hg : g.method = m) (hsize : g.locals.size = c.maxLocals) {argsL rest : List Value}
    (hlen : ∀ sig, parseMethodDescriptor y.desc = some sig → argsL.length = sig.parameters.length) (hstack : g.stack = argsL.reverse ++ .ref b :: rest) (hW : 2 * g.monitorRoom + (rest.map fun v => v.category).sum ≤ W) (hd : decode c.code g.pc = .ok (.invokevirtual index, 3))
    (ha : (.ref b :: argsL).toArray = as') (eT : T.heap = h) (hc : cells + kc ≤ R.cells) (hs : slots + ks ≤ R.slots)
    (k : ∀ v T' L, Stand p l e R s m args below meth c T' (locs ++ L) (cells + kc) (slots + ks) → Q v T'.heap L → oG p e below P T' { g with pc := g.pc + 3, stack := v.toList ++ rest }) : oG p e below P T g := by
  obtain ⟨cq, kq, qa, qb, qc⟩ := isOf hZ eT E
  obtain ⟨v, _, ⟨T1, L1, k1, n1⟩, -, X1, ⟨Lc, hQ, l1, y1, z1⟩, st⟩ := X.virtualBack hx (y := y) (z := z) hown (mvT hZ w1) (mvT hZ w2) hnf (mvT hZ w3) (mvT hZ w4) hy hK qa qc hg hsize (Steps.refl _) hlen hstack hW hd (fun _ _ => ⟨ha, eT, hc, hs⟩)
  dsimp only [Pt.U, Pt.locs, Pt.cells, Pt.slots] at X1 l1 y1 z1 st hQ
  subst l1 y1 z1
  exact own_tr st (k v T1 Lc X1 hQ)
theorem own_callUp (X : Stand p l e R s m args below meth c T locs cells slots) (hx : p.tables.exec = Jvm.exec) (hZ : Z.Warmed39 s.vm) {own K : String} {index : Nat} {y : MethodName} {bytes : ByteArray} {maxL : Nat} {ret : Option FieldType} {W kc ks : Nat} {as' : Array Value}
    (hown : s.vm.findClass own = some m.cls) (w1 : (Cond.methodLink own index y).before a0 Z = true) (w2 : (Cond.sameMethod y.cls y.cls y.name y.desc).before a0 Z = true) (w3 : (Cond.instanceMethod y).before a0 Z = true) (w4 : (Cond.superclass own y.cls).before a0 Z = true) (hn : y.name ≠ "<init>") (wc : (Cond.code y bytes maxL ret).before a0 Z = true)
    (hK : own_Bk l R p e below s args y 3 W as' h kc ks Q) {b : Addr} (E : Exa Z h b K) (hg : g.method = m) (hsize : g.locals.size = c.maxLocals) {argsL rest : List Value}
    (hlen : ∀ sig, parseMethodDescriptor y.desc = some sig → argsL.length = sig.parameters.length) (hstack : g.stack = argsL.reverse ++ .ref b :: rest) (hW : 2 * g.monitorRoom + (rest.map fun v => v.category).sum ≤ W) (hd : decode c.code g.pc = .ok (.invokespecial index, 3))
    (ha : (.ref b :: argsL).toArray = as') (eT : T.heap = h) (hc : cells + kc ≤ R.cells) (hs : slots + ks ≤ R.slots)
    (k : ∀ v T' L, Stand p l e R s m args below meth c T' (locs ++ L) (cells + kc) (slots + ks) → Q v T'.heap L → oG p e below P T' { g with pc := g.pc + 3, stack := v.toList ++ rest }) : oG p e below P T g := by
  obtain ⟨v, _, ⟨T1, L1, k1, n1⟩, -, X1, ⟨Lc, hQ, l1, y1, z1⟩, st⟩ := superBack X hx hZ hown w1 w2 w3 w4 hn hK eT (Ins.self E) hg hsize wc hlen hstack hW hd (fun _ _ => ⟨ha, eT, hc, hs⟩)
  dsimp only [Pt.U, Pt.locs, Pt.cells, Pt.slots] at X1 l1 y1 z1 st hQ
  subst l1 y1 z1
  exact own_tr st (k v T1 Lc X1 hQ)
end OwnV
end Jvm.RoadKit
/- laws to paste: Road.backV, Road.lenW, Road.chN, Road.eqW, Road.codOf (cut by pick.py; bodies as the Statement names them) -/
namespace Jvm.Pilot.@@N@@
namespace StrChars
open Jvm Sem ClassFile Op Lib Jvm.Stand Jvm.Free.XT Jvm.Free.ALB Jvm.Free.JM Jvm.Free
open Jvm.Lib.Cold (StaticIs)
/-- a char array whose places are chars -/
def Ch (a : Addr) (A : Cell) (U : State) : Prop := Arr .char a A U ∧ Typed .char A
theorem Ch.mv {a : Addr} {A : Cell} {U U' : State} (h : Ch a A U) (hal : U.vm.Alike U'.vm) (hh : U'.heap = U.heap) : Ch a A U' := ⟨h.1.mv hal hh, h.2⟩
theorem Ch.keep {a : Addr} {A : Cell} {U U' : State} (h : Ch a A U) (hal : U.vm.Alike U'.vm) (hk : U'.heap[a]? = some A) : Ch a A U' := ⟨h.1.keep hal hk, h.2⟩
/-- what place i of a char[]'s cell holds -/
def cv (A : Cell) (i : Nat) : Int32 := match A.slots[i]? with | some (.int x) => x | _ => 0
theorem Ch.get {a : Addr} {A : Cell} {U : State} (h : Ch a A U) {i : Nat} (hi : i < A.slots.size) : A.slots[i]? = some (.int (cv A i)) := by
  have e := Array.getElem?_eq_getElem hi
  have f := h.2 i _ e
  unfold cv; rw [e]
  generalize A.slots[i] = v at f
  cases v <;> simp [fits] at f ⊢
/-- the byte that i2b leaves of a char -/
def lo8 (x : Int32) : Int32 := x.toInt8.toInt32
theorem fits_lo8 (y : Int32) : fits .byte (.int (lo8 y)) = true := by
  have h1 := y.toInt8.le_toInt
  have h2 := y.toInt8.toInt_lt
  simp only [lo8, fits, Bool.and_eq_true, decide_eq_true_eq, Int32.le_iff_toInt_le, Int8.toInt_toInt32, show (-128 : Int32).toInt = -128 from by decide, show (127 : Int32).toInt = 127 from by decide]
  omega
/-- A' is A but that each place j of lo .. hi - 1 holds f j -/
def Laid (A A' : Cell) (lo hi : Nat) (f : Nat → Value) : Prop := A'.cls = A.cls ∧ A'.vm = A.vm ∧ A'.slots.size = A.slots.size ∧ ∀ i, A'.slots[i]? = if lo ≤ i ∧ i < hi then some (f i) else A.slots[i]?
theorem Laid.zero (A : Cell) (lo : Nat) (f : Nat → Value) : Laid A A lo (lo + 0) f := ⟨rfl, rfl, rfl, fun i => by rw [if_neg (by omega)]⟩
theorem Laid.step {A Ak : Cell} {lo k : Nat} {f : Nat → Value} {v : Value} (h : Laid A Ak lo k f) (hlo : lo ≤ k) (hk : k < Ak.slots.size) (hv : v = f k) : Laid A (Ak.setSlot k v) lo (k + 1) f := by
  refine ⟨h.1, h.2.1, by simpa [Cell.setSlot] using h.2.2.1, fun i => ?_⟩
  by_cases e : k = i
  · subst e; rw [Cell.slots_setSlot_self v hk, if_pos (by omega), hv]
  · rw [Cell.slots_setSlot_ne v e, h.2.2.2 i]
    by_cases q : lo ≤ i ∧ i < k
    · rw [if_pos q, if_pos (by omega)]
    · rw [if_neg q, if_neg (by omega)]
def U16 : String := "java/lang/StringUTF16"
namespace Cmp5
def yN : MethodName := ⟨"java/lang/StringUTF16", "compress", "([CI[BII)I"⟩
abbrev yB : ByteArray := jdk_52_method_21_code
theorem d0 : decode yB 0 = .ok (.iconst 0, 1) := by decide +kernel
theorem d1 : decode yB 1 = .ok (.istore 5, 2) := by decide +kernel
theorem d3 : decode yB 3 = .ok (.iload 5, 2) := by decide +kernel
theorem d5 : decode yB 5 = .ok (.iload 4, 2) := by decide +kernel
theorem d7 : decode yB 7 = .ok (.if_icmp (.ge) 37, 3) := by decide +kernel
theorem d10 : decode yB 10 = .ok (.aload_n 0, 1) := by decide +kernel
theorem d11 : decode yB 11 = .ok (.iload_n 1, 1) := by decide +kernel
theorem d12 : decode yB 12 = .ok (.caload, 1) := by decide +kernel
theorem d13 : decode yB 13 = .ok (.istore 6, 2) := by decide +kernel
theorem d15 : decode yB 15 = .ok (.iload 6, 2) := by decide +kernel
theorem d17 : decode yB 17 = .ok (.sipush 255, 3) := by decide +kernel
theorem d20 : decode yB 20 = .ok (.if_icmp (.le) 6, 3) := by decide +kernel
theorem d26 : decode yB 26 = .ok (.aload_n 2, 1) := by decide +kernel
theorem d27 : decode yB 27 = .ok (.iload_n 3, 1) := by decide +kernel
theorem d28 : decode yB 28 = .ok (.iload 6, 2) := by decide +kernel
theorem d30 : decode yB 30 = .ok (.i2b, 1) := by decide +kernel
theorem d31 : decode yB 31 = .ok (.bastore, 1) := by decide +kernel
theorem d32 : decode yB 32 = .ok (.iinc 1 1, 3) := by decide +kernel
theorem d35 : decode yB 35 = .ok (.iinc 3 1, 3) := by decide +kernel
theorem d38 : decode yB 38 = .ok (.iinc 5 1, 3) := by decide +kernel
theorem d41 : decode yB 41 = .ok (.goto (-38), 3) := by decide +kernel
theorem d44 : decode yB 44 = .ok (.iload 4, 2) := by decide +kernel
theorem d46 : decode yB 46 = .ok (.ireturn, 1) := by decide +kernel
def site : List Cond := []
def tab : Cond := tabOf yN yB 7 (some .int) site
def P (b : Addr) (A : Cell) (d : Addr) (B : Cell) (o q len : Nat) (args : Array Value) (s : State) : Prop := args = #[.ref b, .int (Int32.ofNat o), .ref d, .int (Int32.ofNat q), .int (Int32.ofNat len)] ∧ Ch b A s ∧ Arr .byte d B s ∧ b ≠ d ∧ o + len ≤ A.slots.size ∧ q + len ≤ B.slots.size ∧ ∀ i, i < len → ¬ 255 < cv A (o + i)
def E (b : Addr) (A : Cell) (d : Addr) (B : Cell) (o q len : Nat) (r : Option Value) (s u : State) : Prop := r = some (.int (Int32.ofNat len)) ∧ ∃ B', Put d B' s u ∧ Laid B B' q (q + len) (fun j => Value.int (lo8 (cv A (o + (j - q)))))
/-- no char of the range above 255: len; the places written hold each char's low byte -/
theorem law (l : Launch) (b : Addr) (A : Cell) (d : Addr) (B : Cell) (o q len : Nat) : Law l yN 5 5 0 0 yB 7 (some .int) site (P b A d B o q len) (E b A d B o q len) (copyLocs d q len) 0 0 := by
  refine Law.of_walk (plainFor_of_name (by decide +kernel)) (by decide +kernel) (by decide +kernel) (by decide) (fun _ _ h => by rw [h.1]; rfl) (fun _ U U' hal hh h => ⟨h.1, h.2.1.mv hal hh, h.2.2.1.mv hal hh, h.2.2.2⟩) (fun r U U' V V' h1 hal h2 h => ⟨h.1, h.2.elim fun B' q => ⟨B', q.1.mv h1 h2, q.2⟩⟩) ?_
  intro p e s m args below meth c s₁ X0 hexec hbytes hml hret hlk hnm hown hh0 W hP
  obtain ⟨rfl, hA, hB, hne, l1, l2, hp⟩ := hP
  have c1 : Steps p.tables e below (s₁.setTop (entryFrame m #[.ref b, .int (Int32.ofNat o), .ref d, .int (Int32.ofNat q), .int (Int32.ofNat len)] 7)) (s₁.setTop (mkF m 0 #[.val (.ref b), .val (.int (Int32.ofNat o)), .val (.ref d), .val (.int (Int32.ofNat q)), .val (.int (Int32.ofNat len)), .unset, .unset] [])) := entry rfl
  have hA0 := hA.1.mv X0.warmed.alike hh0
  have hB0 := hB.mv X0.warmed.alike hh0
  have a31 := hA.1.2.2.2
  have c2 : Steps p.tables e below (s₁.setTop (entryFrame m #[.ref b, .int (Int32.ofNat o), .ref d, .int (Int32.ofNat q), .int (Int32.ofNat len)] 7)) (s₁.setTop (mkF m 3 #[.val (.ref b), .val (.int (Int32.ofNat o)), .val (.ref d), .val (.int (Int32.ofNat q)), .val (.int (Int32.ofNat len)), .val (.int 0), .unset] [])) := c1.trans (by
    refine iconstV X0.here hexec rfl 0 (hb hbytes d0) (by decide) ?_
    refine XS.istore X0.here hexec rfl (hb hbytes d1) rfl rfl ?_
    exact Steps.refl _)
  have loop : ∀ (r i : Nat), i + r = len → ∀ (z : Slot), (z = .unset ∨ ∃ w, z = .val w ∧ w.category = 1) → ∀ (Tl : State) (Bk : Cell), Stand p l e { frames := 0, locals := 0, cells := 0, slots := 0 } s m #[.ref b, .int (Int32.ofNat o), .ref d, .int (Int32.ofNat q), .int (Int32.ofNat len)] below meth c Tl ([] ++ copyLocs d q i) 0 0 → Put d Bk s₁ Tl → Laid B Bk q (q + i) (fun j => Value.int (lo8 (cv A (o + (j - q))))) →
      Steps p.tables e below (s₁.setTop (entryFrame m #[.ref b, .int (Int32.ofNat o), .ref d, .int (Int32.ofNat q), .int (Int32.ofNat len)] 7)) (Tl.setTop (mkF m 3 #[.val (.ref b), .val (.int (Int32.ofNat (o + i))), .val (.ref d), .val (.int (Int32.ofNat (q + i))), .val (.int (Int32.ofNat len)), .val (.int (Int32.ofNat i)), z] [])) → ∃ (T' : State) (B' : Cell) (z' : Slot), Stand p l e { frames := 0, locals := 0, cells := 0, slots := 0 } s m #[.ref b, .int (Int32.ofNat o), .ref d, .int (Int32.ofNat q), .int (Int32.ofNat len)] below meth c T' ([] ++ copyLocs d q len) 0 0 ∧ Put d B' s₁ T' ∧ Laid B B' q (q + len) (fun j => Value.int (lo8 (cv A (o + (j - q))))) ∧
      Steps p.tables e below (s₁.setTop (entryFrame m #[.ref b, .int (Int32.ofNat o), .ref d, .int (Int32.ofNat q), .int (Int32.ofNat len)] 7)) (T'.setTop (mkF m 3 #[.val (.ref b), .val (.int (Int32.ofNat (o + len))), .val (.ref d), .val (.int (Int32.ofNat (q + len))), .val (.int (Int32.ofNat len)), .val (.int (Int32.ofNat len)), z'] [])) := by
    intro r
    induction r with
    | zero =>
      intro i hi z hz Tl Bk Xl pl fl cl
      have hil : i = len := by omega
      rw [hil] at Xl fl cl
      exact ⟨Tl, Bk, z, Xl, pl, fl, cl⟩
    | succ r ih =>
      intro i hi z hz Tl Bk Xl pl fl cl
      have all := X0.warmed.alike.symm.trans Xl.warmed.alike
      have hAl := hA0.keep all (pl.other hne hA0.1)
      have hBk := hB0.like all pl.1 fl.1 fl.2.1 fl.2.2.1
      have hlt : q + i < Bk.slots.size := by rw [fl.2.2.1]; omega
      have c3 : Steps p.tables e below (s₁.setTop (entryFrame m #[.ref b, .int (Int32.ofNat o), .ref d, .int (Int32.ofNat q), .int (Int32.ofNat len)] 7)) (Tl.setTop (mkF m 12 #[.val (.ref b), .val (.int (Int32.ofNat (o + i))), .val (.ref d), .val (.int (Int32.ofNat (q + i))), .val (.int (Int32.ofNat len)), .val (.int (Int32.ofNat i)), z] [.int (Int32.ofNat (o + i)), .ref b])) := cl.trans (by
        refine XS.iload Xl.here hexec rfl (hb hbytes d3) rfl ?_
        refine XS.iload Xl.here hexec rfl (hb hbytes d5) rfl ?_
        refine XS.icmpNo Xl.here hexec rfl (hb hbytes d7) rfl (ii_ge_f (lt32 (by omega) (by omega))) ?_
        refine XS.aloadN Xl.here hexec rfl (hb hbytes d10) rfl rfl ?_
        refine XS.iloadN Xl.here hexec rfl (hb hbytes d11) rfl ?_
        exact Steps.refl _)
      have c4 : Steps p.tables e below (s₁.setTop (entryFrame m #[.ref b, .int (Int32.ofNat o), .ref d, .int (Int32.ofNat q), .int (Int32.ofNat len)] 7)) (Tl.setTop (mkF m 13 #[.val (.ref b), .val (.int (Int32.ofNat (o + i))), .val (.ref d), .val (.int (Int32.ofNat (q + i))), .val (.int (Int32.ofNat len)), .val (.int (Int32.ofNat i)), z] [.int (cv A (o + i))])) := c3.trans (by
        refine Xl.aget hexec hAl rfl (hA.get (i := o + i) (by omega)) rfl rfl (hb hbytes d12) ?_
        exact Steps.refl _)
      have c5 : Steps p.tables e below (s₁.setTop (entryFrame m #[.ref b, .int (Int32.ofNat o), .ref d, .int (Int32.ofNat q), .int (Int32.ofNat len)] 7)) (Tl.setTop (mkF m 15 #[.val (.ref b), .val (.int (Int32.ofNat (o + i))), .val (.ref d), .val (.int (Int32.ofNat (q + i))), .val (.int (Int32.ofNat len)), .val (.int (Int32.ofNat i)), .val (.int (cv A (o + i)))] [])) := c4.trans (by
        refine XS.istoreS Xl.here hexec rfl (hb hbytes d13) rfl rfl hz ?_
        exact Steps.refl _)
      have c6 : Steps p.tables e below (s₁.setTop (entryFrame m #[.ref b, .int (Int32.ofNat o), .ref d, .int (Int32.ofNat q), .int (Int32.ofNat len)] 7)) (Tl.setTop (mkF m 31 #[.val (.ref b), .val (.int (Int32.ofNat (o + i))), .val (.ref d), .val (.int (Int32.ofNat (q + i))), .val (.int (Int32.ofNat len)), .val (.int (Int32.ofNat i)), .val (.int (cv A (o + i)))] [.int (lo8 (cv A (o + i))), .int (Int32.ofNat (q + i)), .ref d])) := c5.trans (by
        refine XS.iload Xl.here hexec rfl (hb hbytes d15) rfl ?_
        refine sipushV Xl.here hexec rfl 255 (hb hbytes d17) (by decide) ?_
        refine XS.icmpYes Xl.here hexec rfl (pc0 := 20) rfl (hb hbytes d20) rfl (ii_le_t (hp i (by omega))) (by decide) rfl ?_
        refine XS.aloadN Xl.here hexec rfl (hb hbytes d26) rfl rfl ?_
        refine XS.iloadN Xl.here hexec rfl (hb hbytes d27) rfl ?_
        refine XS.iload Xl.here hexec rfl (hb hbytes d28) rfl ?_
        refine i2b Xl.here hexec rfl (hb hbytes d30) rfl ?_
        exact Steps.refl _)
      obtain ⟨T7, X7, p7, st7⟩ := Xl.aput hexec hBk rfl hlt rfl (fits_lo8 (cv A (o + i))) (g := (mkF m 31 #[.val (.ref b), .val (.int (Int32.ofNat (o + i))), .val (.ref d), .val (.int (Int32.ofNat (q + i))), .val (.int (Int32.ofNat len)), .val (.int (Int32.ofNat i)), .val (.int (cv A (o + i)))] [.int (lo8 (cv A (o + i))), .int (Int32.ofNat (q + i)), .ref d])) rfl (rest := []) rfl (hb hbytes d31)
      have c8 : Steps p.tables e below (s₁.setTop (entryFrame m #[.ref b, .int (Int32.ofNat o), .ref d, .int (Int32.ofNat q), .int (Int32.ofNat len)] 7)) (T7.setTop (mkF m 32 #[.val (.ref b), .val (.int (Int32.ofNat (o + i))), .val (.ref d), .val (.int (Int32.ofNat (q + i))), .val (.int (Int32.ofNat len)), .val (.int (Int32.ofNat i)), .val (.int (cv A (o + i)))] [])) := c6.trans (st7 _ (Steps.refl _))
      have c9 : Steps p.tables e below (s₁.setTop (entryFrame m #[.ref b, .int (Int32.ofNat o), .ref d, .int (Int32.ofNat q), .int (Int32.ofNat len)] 7)) (T7.setTop (mkF m 3 #[.val (.ref b), .val (.int (Int32.ofNat (o + i) + 1)), .val (.ref d), .val (.int (Int32.ofNat (q + i) + 1)), .val (.int (Int32.ofNat len)), .val (.int (Int32.ofNat i + 1)), .val (.int (cv A (o + i)))] [])) := c8.trans (by
        refine iincV X7.here hexec rfl 1 (hb hbytes d32) (by decide) rfl rfl ?_
        refine iincV X7.here hexec rfl 1 (hb hbytes d35) (by decide) rfl rfl ?_
        refine iincV X7.here hexec rfl 1 (hb hbytes d38) (by decide) rfl rfl ?_
        refine XS.goto X7.here hexec rfl (pc0 := 41) rfl (hb hbytes d41) (by decide) rfl ?_
        exact Steps.refl _)
      have c10 : Steps p.tables e below (s₁.setTop (entryFrame m #[.ref b, .int (Int32.ofNat o), .ref d, .int (Int32.ofNat q), .int (Int32.ofNat len)] 7)) (T7.setTop (mkF m 3 #[.val (.ref b), .val (.int (Int32.ofNat (o + (i + 1)))), .val (.ref d), .val (.int (Int32.ofNat (q + (i + 1)))), .val (.int (Int32.ofNat len)), .val (.int (Int32.ofNat (i + 1))), .val (.int (cv A (o + i)))] [])) := by
        have := c9
        rw [succ32, succ32, succ32] at this
        exact this
      exact ih (i + 1) (by omega) _ (Or.inr ⟨_, rfl, rfl⟩) T7 _ (by rw [copyLocs_step, ← List.append_assoc]; exact X7) (pl.trans p7) (fl.step (by omega) hlt (by simp)) c10
  obtain ⟨T9, B9, z9, X9, p9, f9, g9⟩ := loop len 0 (by omega) .unset (Or.inl rfl) s₁ B (by simpa [copyLocs] using X0) ⟨hB0.1, fun _ _ => rfl, rfl⟩ (Laid.zero _ _ _) c2
  have c11 : Steps p.tables e below (s₁.setTop (entryFrame m #[.ref b, .int (Int32.ofNat o), .ref d, .int (Int32.ofNat q), .int (Int32.ofNat len)] 7)) (T9.setTop (mkF m 46 #[.val (.ref b), .val (.int (Int32.ofNat (o + len))), .val (.ref d), .val (.int (Int32.ofNat (q + len))), .val (.int (Int32.ofNat len)), .val (.int (Int32.ofNat len)), z9] [.int (Int32.ofNat len)])) := g9.trans (by
    refine XS.iload X9.here hexec rfl (hb hbytes d3) rfl ?_
    refine XS.iload X9.here hexec rfl (hb hbytes d5) rfl ?_
    refine XS.icmpYes X9.here hexec rfl (pc0 := 7) rfl (hb hbytes d7) rfl (ii_ge_t (nlt32 (by omega) (Nat.le_refl _))) (by decide) rfl ?_
    refine XS.iload X9.here hexec rfl (hb hbytes d44) rfl ?_
    exact Steps.refl _)
  exact ⟨T9, some (.int (Int32.ofNat len)), _, _, _, X9, by simp, rfl, rfl, (fun h => by cases h), ⟨rfl, B9, p9.from hh0, f9⟩, fun fs hl => c11.trans (X9.ireturnOut hexec hret rfl (Or.inl rfl) (hb hbytes d46) hl)⟩
end Cmp5
namespace Cmp3
def yN : MethodName := ⟨"java/lang/StringUTF16", "compress", "([CII)[B"⟩
abbrev yB : ByteArray := jdk_52_method_16_code
theorem d0 : decode yB 0 = .ok (.iload_n 2, 1) := by decide +kernel
theorem d1 : decode yB 1 = .ok (.newarray .byte, 2) := by decide +kernel
theorem d3 : decode yB 3 = .ok (.astore_n 3, 1) := by decide +kernel
theorem d4 : decode yB 4 = .ok (.aload_n 0, 1) := by decide +kernel
theorem d5 : decode yB 5 = .ok (.iload_n 1, 1) := by decide +kernel
theorem d6 : decode yB 6 = .ok (.aload_n 3, 1) := by decide +kernel
theorem d7 : decode yB 7 = .ok (.iconst 0, 1) := by decide +kernel
theorem d8 : decode yB 8 = .ok (.iload_n 2, 1) := by decide +kernel
theorem d9 : decode yB 9 = .ok (.invokestatic 115, 3) := by decide +kernel
theorem d12 : decode yB 12 = .ok (.istore 4, 2) := by decide +kernel
theorem d14 : decode yB 14 = .ok (.iload 4, 2) := by decide +kernel
theorem d16 : decode yB 16 = .ok (.iload_n 2, 1) := by decide +kernel
theorem d17 : decode yB 17 = .ok (.if_icmp (.eq) 40, 3) := by decide +kernel
theorem d57 : decode yB 57 = .ok (.aload_n 3, 1) := by decide +kernel
theorem d58 : decode yB 58 = .ok (.areturn, 1) := by decide +kernel
def site : List Cond := [.arrayClass .byte, Cmp5.tab] ++ staticW U16 115 Cmp5.yN
def tab : Cond := tabOf yN yB 6 (some (.array .byte)) site
def P (b : Addr) (A : Cell) (o len : Nat) (args : Array Value) (s : State) : Prop := args = #[.ref b, .int (Int32.ofNat o), .int (Int32.ofNat len)] ∧ Ch b A s ∧ o + len ≤ A.slots.size ∧ len ≤ 536870912 ∧ ∀ i, i < len → ¬ 255 < cv A (o + i)
def E (b : Addr) (A : Cell) (o len : Nat) (r : Option Value) (s u : State) : Prop := NewArr .byte "[B" len (fun j => .int (lo8 (cv A (o + j)))) r s u ∧ u.heap.size = s.heap.size + 1
/-- no char of the range above 255: a new byte[] of their low bytes -/
theorem law (l : Launch) (b : Addr) (A : Cell) (o len : Nat) : Law l yN 3 3 1 18 yB 6 (some (.array .byte)) site (P b A o len) (E b A o len) [] 1 len := by
  refine Law.of_walk (plainFor_of_name (by decide +kernel)) (by decide +kernel) (by decide +kernel) (by decide) (fun _ _ h => by rw [h.1]; rfl) (fun _ U U' hal hh h => ⟨h.1, h.2.1.mv hal hh, h.2.2⟩) (fun r U U' V V' h1 hal h2 h => ⟨NewArr.mv r U U' V V' h1 hal h2 h.1, by rw [h1, h2]; exact h.2⟩) ?_
  intro p e s m args below meth c s₁ X0 hexec hbytes hml hret hlk hnm hown hh0 W hP
  obtain ⟨rfl, hA, l1, l2, hp⟩ := hP
  have a31 := hA.1.2.2.2
  have c1 : Steps p.tables e below (s₁.setTop (entryFrame m #[.ref b, .int (Int32.ofNat o), .int (Int32.ofNat len)] 6)) (s₁.setTop (mkF m 0 #[.val (.ref b), .val (.int (Int32.ofNat o)), .val (.int (Int32.ofNat len)), .unset, .unset, .unset] [])) := entry rfl
  have c2 : Steps p.tables e below (s₁.setTop (entryFrame m #[.ref b, .int (Int32.ofNat o), .int (Int32.ofNat len)] 6)) (s₁.setTop (mkF m 1 #[.val (.ref b), .val (.int (Int32.ofNat o)), .val (.int (Int32.ofNat len)), .unset, .unset, .unset] [.int (Int32.ofNat len)])) := c1.trans (by
    refine XS.iloadN X0.here hexec rfl (hb hbytes d0) rfl ?_
    exact Steps.refl _)
  obtain ⟨T3, B3, X3, ba3, bs3, bv3, bh3, bf3, st3⟩ := X0.anew hexec (atype := .byte) (wk W (.arrayClass .byte)) rfl (by show len * 1 ≤ _; omega) (by omega) (g := (mkF m 1 #[.val (.ref b), .val (.int (Int32.ofNat o)), .val (.int (Int32.ofNat len)), .unset, .unset, .unset] [.int (Int32.ofNat len)])) rfl (hb hbytes d1) (rest := []) rfl (Nat.le_refl _) (by show 0 + len ≤ len; omega)
  rw [hh0] at ba3 st3
  have kp3 : XT.Kept s T3 := (XT.Kept.of_eq hh0).push bh3
  have hA3 := hA.keep X3.warmed.alike (kp3 _ _ hA.1.1)
  have hne : b ≠ s.heap.size := hA.1.ne
  have c4 : Steps p.tables e below (s₁.setTop (entryFrame m #[.ref b, .int (Int32.ofNat o), .int (Int32.ofNat len)] 6)) (T3.setTop (mkF m 3 #[.val (.ref b), .val (.int (Int32.ofNat o)), .val (.int (Int32.ofNat len)), .unset, .unset, .unset] [.ref s.heap.size])) := c2.trans (st3 _ (Steps.refl _))
  have c5 : Steps p.tables e below (s₁.setTop (entryFrame m #[.ref b, .int (Int32.ofNat o), .int (Int32.ofNat len)] 6)) (T3.setTop (mkF m 9 #[.val (.ref b), .val (.int (Int32.ofNat o)), .val (.int (Int32.ofNat len)), .val (.ref s.heap.size), .unset, .unset] [.int (Int32.ofNat len), .int 0, .ref s.heap.size, .int (Int32.ofNat o), .ref b])) := c4.trans (by
    refine XS.astoreN X3.here hexec rfl (hb hbytes d3) rfl rfl rfl ?_
    refine XS.aloadN X3.here hexec rfl (hb hbytes d4) rfl rfl ?_
    refine XS.iloadN X3.here hexec rfl (hb hbytes d5) rfl ?_
    refine XS.aloadN X3.here hexec rfl (hb hbytes d6) rfl rfl ?_
    refine iconstV X3.here hexec rfl 0 (hb hbytes d7) (by decide) ?_
    refine XS.iloadN X3.here hexec rfl (hb hbytes d8) rfl ?_
    exact Steps.refl _)
  obtain ⟨v6, T6, X6, E6, g6⟩ := X3.callS hexec (Cmp5.law l b A s.heap.size B3 o 0 len) hown (wks W (staticW U16 115 Cmp5.yN)) (wk W Cmp5.tab) (W := 0) (Nat.le_of_ble_eq_true rfl) (Nat.le_of_ble_eq_true rfl) (Nat.le_refl _) (by show 0 + len + 0 ≤ len; omega) (g := (mkF m 9 #[.val (.ref b), .val (.int (Int32.ofNat o)), .val (.int (Int32.ofNat len)), .val (.ref s.heap.size), .unset, .unset] [.int (Int32.ofNat len), .int (Int32.ofNat 0), .ref s.heap.size, .int (Int32.ofNat o), .ref b])) rfl (by rw [hml]; rfl) c5 (argsL := [.ref b, .int (Int32.ofNat o), .ref s.heap.size, .int (Int32.ofNat 0), .int (Int32.ofNat len)]) (rest := []) rfl rfl (by show 2 * 0 + 0 ≤ _; decide) (hb hbytes d9) (⟨rfl, hA3, ba3, hne, l1, by rw [bs3]; simp, hp⟩)
  obtain ⟨rfl, B6, p6, f6⟩ := E6
  have c7 : Steps p.tables e below (s₁.setTop (entryFrame m #[.ref b, .int (Int32.ofNat o), .int (Int32.ofNat len)] 6)) (T6.setTop (mkF m 12 #[.val (.ref b), .val (.int (Int32.ofNat o)), .val (.int (Int32.ofNat len)), .val (.ref s.heap.size), .unset, .unset] [.int (Int32.ofNat len)])) := g6
  have c8 : Steps p.tables e below (s₁.setTop (entryFrame m #[.ref b, .int (Int32.ofNat o), .int (Int32.ofNat len)] 6)) (T6.setTop (mkF m 58 #[.val (.ref b), .val (.int (Int32.ofNat o)), .val (.int (Int32.ofNat len)), .val (.ref s.heap.size), .val (.int (Int32.ofNat len)), .unset] [.ref s.heap.size])) := c7.trans (by
    refine XS.istore X6.here hexec rfl (hb hbytes d12) rfl rfl ?_
    refine XS.iload X6.here hexec rfl (hb hbytes d14) rfl ?_
    refine XS.iloadN X6.here hexec rfl (hb hbytes d16) rfl ?_
    refine XS.icmpYes X6.here hexec rfl (pc0 := 17) rfl (hb hbytes d17) rfl (ii_eq_t rfl) (by decide) rfl ?_
    refine XS.aloadN X6.here hexec rfl (hb hbytes d57) rfl rfl ?_
    exact Steps.refl _)
  have X8 := X6.wide (L' := []) (cells' := 1) (slots' := len) (fun x hx hlt => by
    simp only [List.nil_append, copyLocs, List.mem_map, List.mem_range] at hx
    obtain ⟨i, -, rfl⟩ := hx
    exact absurd hlt (Nat.lt_irrefl _)) (Nat.le_refl _) (by omega)
  exact ⟨T6, some (.ref s.heap.size), _, _, _, X8, rfl, rfl, rfl, (fun h => by cases h), ⟨⟨rfl, B6, ba3.like (X3.warmed.alike.symm.trans X6.warmed.alike) p6.1 f6.1 f6.2.1 f6.2.2.1, f6.2.1.trans bv3, by rw [X6.warmed.alike.findClass, f6.1]; exact bf3, by rw [f6.2.2.1, bs3]; simp, fun j hj => by rw [f6.2.2.2 j, if_pos (by omega)]; rfl, kp3.put p6 (Nat.le_refl _)⟩, by rw [p6.2.2, bh3, hh0]; simp⟩, fun fs hl => c8.trans (X8.areturnOut hexec rfl hret rfl (hb hbytes d58) hl)⟩
end Cmp3
namespace CodL
def yN : MethodName := ⟨"java/lang/StringUTF16", "coderFromArrayLen", "([BI)B"⟩
abbrev yB : ByteArray := jdk_52_method_15_code
theorem d0 : decode yB 0 = .ok (.iload_n 1, 1) := by decide +kernel
theorem d1 : decode yB 1 = .ok (.aload_n 0, 1) := by decide +kernel
theorem d2 : decode yB 2 = .ok (.arraylength, 1) := by decide +kernel
theorem d3 : decode yB 3 = .ok (.isub, 1) := by decide +kernel
theorem d4 : decode yB 4 = .ok (.bipush 31, 2) := by decide +kernel
theorem d6 : decode yB 6 = .ok (.iushr, 1) := by decide +kernel
theorem d7 : decode yB 7 = .ok (.i2b, 1) := by decide +kernel
theorem d8 : decode yB 8 = .ok (.ireturn, 1) := by decide +kernel
def site : List Cond := []
def tab : Cond := tabOf yN yB 2 (some .byte) site
def P (d : Addr) (B : Cell) (args : Array Value) (s : State) : Prop := args = #[.ref d, .int (Int32.ofNat B.slots.size)] ∧ Arr .byte d B s
def E (r : Option Value) (s u : State) : Prop := XT.PureE (some (.int 0)) r s u
/-- an array as long as the number of chars: LATIN1 -/
theorem law (l : Launch) (d : Addr) (B : Cell) : Law l yN 2 2 0 0 yB 2 (some .byte) site (P d B) E [] 0 0 := by
  refine Law.of_walk (plainFor_of_name (by decide +kernel)) (by decide +kernel) (by decide +kernel) (by decide) (fun _ _ h => by rw [h.1]; rfl) (fun _ U U' hal hh h => ⟨h.1, h.2.mv hal hh⟩) (fun r U U' V V' h1 hal h2 h => XT.PureE.mv r U U' V V' h1 hal h2 h) ?_
  intro p e s m args below meth c s₁ X0 hexec hbytes hml hret hlk hnm hown hh0 W hP
  obtain ⟨rfl, hB⟩ := hP
  have hB0 := hB.mv X0.warmed.alike hh0
  have c1 : Steps p.tables e below (s₁.setTop (entryFrame m #[.ref d, .int (Int32.ofNat B.slots.size)] 2)) (s₁.setTop (mkF m 0 #[.val (.ref d), .val (.int (Int32.ofNat B.slots.size))] [])) := entry rfl
  have c2 : Steps p.tables e below (s₁.setTop (entryFrame m #[.ref d, .int (Int32.ofNat B.slots.size)] 2)) (s₁.setTop (mkF m 2 #[.val (.ref d), .val (.int (Int32.ofNat B.slots.size))] [.ref d, .int (Int32.ofNat B.slots.size)])) := c1.trans (by
    refine XS.iloadN X0.here hexec rfl (hb hbytes d0) rfl ?_
    refine XS.aloadN X0.here hexec rfl (hb hbytes d1) rfl rfl ?_
    exact Steps.refl _)
  have c3 : Steps p.tables e below (s₁.setTop (entryFrame m #[.ref d, .int (Int32.ofNat B.slots.size)] 2)) (s₁.setTop (mkF m 8 #[.val (.ref d), .val (.int (Int32.ofNat B.slots.size))] [.int (lo8 (ushr (Int32.ofNat B.slots.size - Int32.ofNat B.slots.size) 31))])) := c2.trans (by
    refine X0.alen hexec hB0 rfl rfl (hb hbytes d2) ?_
    refine XS.isub X0.here hexec rfl (hb hbytes d3) rfl ?_
    refine bipushV X0.here hexec rfl 31 (hb hbytes d4) (by decide) ?_
    refine iushr X0.here hexec rfl (hb hbytes d6) rfl ?_
    refine i2b X0.here hexec rfl (hb hbytes d7) rfl ?_
    exact Steps.refl _)
  have e0 : lo8 (ushr (Int32.ofNat B.slots.size - Int32.ofNat B.slots.size) 31) = 0 := by rw [Int32.sub_self]; decide
  rw [e0] at c3
  exact ⟨s₁, some (.int 0), _, _, _, X0, rfl, rfl, rfl, (fun h => by cases h), ⟨rfl, hh0⟩, fun fs hl => c3.trans (X0.ireturnOut hexec hret rfl (Or.inr (Or.inr (Or.inl rfl))) (hb hbytes d8) hl)⟩
end CodL
/-- the String at a is Latin-1 over a new byte[] (the heap's one new cell): the low bytes of the len chars of A from o on; every cell but a is kept -/
def Got (a : Addr) (D : Cell) (fV fC : Field) (A : Cell) (o len : Nat) (r : Option Value) (s u : State) : Prop := r = none ∧ ∃ D' V : Cell, Blank "java/lang/String" a D' u ∧ Same D D' [fV.slot, fC.slot] ∧ D'.slots[fV.slot]? = some (.ref s.heap.size) ∧ D'.slots[fC.slot]? = some (.int 0) ∧ Arr .byte s.heap.size V u ∧ V.vm = .none ∧ u.vm.findClass "[B" = some V.cls ∧ V.slots.size = len ∧ (∀ j, j < len → V.slots[j]? = some (.int (lo8 (cv A (o + j))))) ∧ (∀ (y : Addr) (c : Cell), y ≠ a → s.heap[y]? = some c → u.heap[y]? = some c) ∧ u.heap.size = s.heap.size + 1
theorem Got.mv {a : Addr} {D A : Cell} {fV fC : Field} {o len : Nat} : ∀ r (U U' V V' : State), U'.heap = U.heap → V.vm.Alike V'.vm → V'.heap = V.heap → Got a D fV fC A o len r U V → Got a D fV fC A o len r U' V' :=
  fun r U U' V V' h1 hal h2 ⟨e0, D', X, a1, a2, a3, a4, a5, a6, a7, a8, a9, a10, a11⟩ => ⟨e0, D', X, a1.mv hal h2, a2, by rw [h1]; exact a3, a4, by rw [h1]; exact a5.mv hal h2, a6, by rw [hal.findClass]; exact a7, a8, a9, by rw [h1, h2]; exact a10, by rw [h1, h2]; exact a11⟩
namespace New4
def yN : MethodName := ⟨"java/lang/String", "<init>", "([CIILjava/lang/Void;)V"⟩
abbrev yB : ByteArray := jdk_42_method_149_code
theorem d0 : decode yB 0 = .ok (.aload_n 0, 1) := by decide +kernel
theorem d1 : decode yB 1 = .ok (.invokespecial 1, 3) := by decide +kernel
theorem d4 : decode yB 4 = .ok (.iload_n 3, 1) := by decide +kernel
theorem d5 : decode yB 5 = .ok (.ifCond (.ne) 22, 3) := by decide +kernel
theorem d27 : decode yB 27 = .ok (.getstatic 38, 3) := by decide +kernel
theorem d30 : decode yB 30 = .ok (.ifCond (.eq) 28, 3) := by decide +kernel
theorem d33 : decode yB 33 = .ok (.aload_n 1, 1) := by decide +kernel
theorem d34 : decode yB 34 = .ok (.iload_n 2, 1) := by decide +kernel
theorem d35 : decode yB 35 = .ok (.iload_n 3, 1) := by decide +kernel
theorem d36 : decode yB 36 = .ok (.invokestatic 177, 3) := by decide +kernel
theorem d39 : decode yB 39 = .ok (.astore 5, 2) := by decide +kernel
theorem d41 : decode yB 41 = .ok (.aload_n 0, 1) := by decide +kernel
theorem d42 : decode yB 42 = .ok (.aload 5, 2) := by decide +kernel
theorem d44 : decode yB 44 = .ok (.iload_n 3, 1) := by decide +kernel
theorem d45 : decode yB 45 = .ok (.invokestatic 47, 3) := by decide +kernel
theorem d48 : decode yB 48 = .ok (.putfield 15, 3) := by decide +kernel
theorem d51 : decode yB 51 = .ok (.aload_n 0, 1) := by decide +kernel
theorem d52 : decode yB 52 = .ok (.aload 5, 2) := by decide +kernel
theorem d54 : decode yB 54 = .ok (.putfield 9, 3) := by decide +kernel
theorem d57 : decode yB 57 = .ok (.return_, 1) := by decide +kernel
def site : List Cond := [.fieldLink "java/lang/String" 38 "java/lang/String" "COMPACT_STRINGS" "Z", Cmp3.tab, CodL.tab, .laysFinal "java/lang/String" "java/lang/String" "value" "[B", .fieldLink "java/lang/String" 9 "java/lang/String" "value" "[B", .laysFinal "java/lang/String" "java/lang/String" "coder" "B", .fieldLink "java/lang/String" 15 "java/lang/String" "coder" "B"] ++ objW "java/lang/String" 1 ++ staticW "java/lang/String" 177 Cmp3.yN ++ staticW "java/lang/String" 47 CodL.yN
def tab : Cond := tabOf yN yB 6 none site
def P (a : Addr) (D : Cell) (fV fC : Field) (b : Addr) (A : Cell) (z : Int32) (o len : Nat) (args : Array Value) (s : State) : Prop := args = #[.ref a, .ref b, .int (Int32.ofNat o), .int (Int32.ofNat len), .null] ∧ Blank "java/lang/String" a D s ∧ Found "java/lang/String" "value" "[B" fV s ∧ Found "java/lang/String" "coder" "B" fC s ∧ Ch b A s ∧ StaticIs s "java/lang/String" "COMPACT_STRINGS" "Z" (.int z) ∧ ¬ z = 0 ∧ 0 < len ∧ o + len ≤ A.slots.size ∧ len ≤ 536870912 ∧ ∀ i, i < len → ¬ 255 < cv A (o + i)
def E (a : Addr) (D : Cell) (fV fC : Field) (A : Cell) (o len : Nat) (r : Option Value) (s u : State) : Prop := Got a D fV fC A o len r s u
/-- len > 0, no char of the range above 255: a Latin-1 String of their low bytes -/
theorem law (l : Launch) (a : Addr) (D : Cell) (fV fC : Field) (b : Addr) (A : Cell) (z : Int32) (o len : Nat) : Law l yN 5 4 2 35 yB 6 none site (P a D fV fC b A z o len) (E a D fV fC A o len) [⟨a, fC.slot⟩, ⟨a, fV.slot⟩] 1 len := by
  refine Law.of_walk (plainFor_of_name (by decide +kernel)) (by decide +kernel) (by decide +kernel) (by decide) (fun _ _ h => by rw [h.1]; rfl) (fun _ U U' hal hh h => ⟨h.1, h.2.1.mv hal hh, h.2.2.1.al hal, h.2.2.2.1.al hal, h.2.2.2.2.1.mv hal hh, h.2.2.2.2.2.1.there hal hh, h.2.2.2.2.2.2⟩) (fun r U U' V V' h1 hal h2 h => Got.mv r U U' V V' h1 hal h2 h) ?_
  intro p e s m args below meth c s₁ X0 hexec hbytes hml hret hlk hnm hown hh0 W hP
  obtain ⟨rfl, hB, f1, f2, hA, s1, hz, l0, l1, l2, hp⟩ := hP
  have a31 := hA.1.2.2.2
  have c1 : Steps p.tables e below (s₁.setTop (entryFrame m #[.ref a, .ref b, .int (Int32.ofNat o), .int (Int32.ofNat len), .null] 6)) (s₁.setTop (mkF m 0 #[.val (.ref a), .val (.ref b), .val (.int (Int32.ofNat o)), .val (.int (Int32.ofNat len)), .val .null, .unset] [])) := entry rfl
  have c2 : Steps p.tables e below (s₁.setTop (entryFrame m #[.ref a, .ref b, .int (Int32.ofNat o), .int (Int32.ofNat len), .null] 6)) (s₁.setTop (mkF m 1 #[.val (.ref a), .val (.ref b), .val (.int (Int32.ofNat o)), .val (.int (Int32.ofNat len)), .val .null, .unset] [.ref a])) := c1.trans (by
    refine XS.aloadN X0.here hexec rfl (hb hbytes d0) rfl rfl ?_
    exact Steps.refl _)
  obtain ⟨T3, X3, q3, st3⟩ := X0.oinit hexec hown (wks W (objW "java/lang/String" 1)) (g := (mkF m 1 #[.val (.ref a), .val (.ref b), .val (.int (Int32.ofNat o)), .val (.int (Int32.ofNat len)), .val .null, .unset] [.ref a])) rfl (by rw [hml]; rfl) (rest := []) rfl (hb hbytes d1) (W := 0) (by show 2 * 0 + 0 ≤ _; decide) (Nat.le_of_ble_eq_true rfl) (Nat.le_of_ble_eq_true rfl)
  have hh3 := q3.trans hh0
  have c4 : Steps p.tables e below (s₁.setTop (entryFrame m #[.ref a, .ref b, .int (Int32.ofNat o), .int (Int32.ofNat len), .null] 6)) (T3.setTop (mkF m 27 #[.val (.ref a), .val (.ref b), .val (.int (Int32.ofNat o)), .val (.int (Int32.ofNat len)), .val .null, .unset] [])) := (c2.trans (st3 _ (Steps.refl _))).trans (by
    refine XS.iloadN X3.here hexec rfl (hb hbytes d4) rfl ?_
    refine XS.ifYes X3.here hexec rfl (pc0 := 5) rfl (hb hbytes d5) rfl (i0_ne_t (nz32 (by omega) l0)) (by decide) rfl ?_
    exact Steps.refl _)
  obtain ⟨T5, X5, q5, st5⟩ := X3.sget hexec hown (wk W (.fieldLink "java/lang/String" 38 "java/lang/String" "COMPACT_STRINGS" "Z")) s1 (fun _ _ h => by rw [hh3]; exact h) (g := (mkF m 27 #[.val (.ref a), .val (.ref b), .val (.int (Int32.ofNat o)), .val (.int (Int32.ofNat len)), .val .null, .unset] [])) rfl (hb hbytes d27)
  have hh5 := q5.trans hh3
  have c6 : Steps p.tables e below (s₁.setTop (entryFrame m #[.ref a, .ref b, .int (Int32.ofNat o), .int (Int32.ofNat len), .null] 6)) (T5.setTop (mkF m 30 #[.val (.ref a), .val (.ref b), .val (.int (Int32.ofNat o)), .val (.int (Int32.ofNat len)), .val .null, .unset] [.int z])) := c4.trans (st5 _ (Steps.refl _))
  have c7 : Steps p.tables e below (s₁.setTop (entryFrame m #[.ref a, .ref b, .int (Int32.ofNat o), .int (Int32.ofNat len), .null] 6)) (T5.setTop (mkF m 36 #[.val (.ref a), .val (.ref b), .val (.int (Int32.ofNat o)), .val (.int (Int32.ofNat len)), .val .null, .unset] [.int (Int32.ofNat len), .int (Int32.ofNat o), .ref b])) := c6.trans (by
    refine XS.ifNo X5.here hexec rfl (hb hbytes d30) rfl (i0_eq_f hz) ?_
    refine XS.aloadN X5.here hexec rfl (hb hbytes d33) rfl rfl ?_
    refine XS.iloadN X5.here hexec rfl (hb hbytes d34) rfl ?_
    refine XS.iloadN X5.here hexec rfl (hb hbytes d35) rfl ?_
    exact Steps.refl _)
  obtain ⟨v8, T8, X8, E8, g8⟩ := X5.callS hexec (Cmp3.law l b A o len) hown (wks W (staticW "java/lang/String" 177 Cmp3.yN)) (wk W Cmp3.tab) (W := 0) (Nat.le_of_ble_eq_true rfl) (Nat.le_of_ble_eq_true rfl) (Nat.le_refl _) (by show 0 + len ≤ len; omega) (g := (mkF m 36 #[.val (.ref a), .val (.ref b), .val (.int (Int32.ofNat o)), .val (.int (Int32.ofNat len)), .val .null, .unset] [.int (Int32.ofNat len), .int (Int32.ofNat o), .ref b])) rfl (by rw [hml]; rfl) c7 (argsL := [.ref b, .int (Int32.ofNat o), .int (Int32.ofNat len)]) (rest := []) rfl rfl (by show 2 * 0 + 0 ≤ _; decide) (hb hbytes d36) (⟨rfl, hA.mv X5.warmed.alike hh5, l1, l2, hp⟩)
  obtain ⟨e8, z8⟩ := E8
  obtain ⟨rfl, N, n1, n2, n3, n4, n5, n6⟩ := NewArr.mv _ T5 s _ _ hh5.symm (Vm.Alike.refl _) rfl e8
  rw [hh5] at z8
  have hB1 := hB.keep X8.warmed.alike (n6 _ _ hB.1)
  have hne : s.heap.size ≠ a := (Nat.ne_of_lt (Array.getElem?_eq_some_iff.mp hB.1).1).symm
  have c9 : Steps p.tables e below (s₁.setTop (entryFrame m #[.ref a, .ref b, .int (Int32.ofNat o), .int (Int32.ofNat len), .null] 6)) (T8.setTop (mkF m 39 #[.val (.ref a), .val (.ref b), .val (.int (Int32.ofNat o)), .val (.int (Int32.ofNat len)), .val .null, .unset] [.ref s.heap.size])) := g8
  have c10 : Steps p.tables e below (s₁.setTop (entryFrame m #[.ref a, .ref b, .int (Int32.ofNat o), .int (Int32.ofNat len), .null] 6)) (T8.setTop (mkF m 45 #[.val (.ref a), .val (.ref b), .val (.int (Int32.ofNat o)), .val (.int (Int32.ofNat len)), .val .null, .val (.ref s.heap.size)] [.int (Int32.ofNat N.slots.size), .ref s.heap.size, .ref a])) := by
    have hc : Steps p.tables e below (s₁.setTop (entryFrame m #[.ref a, .ref b, .int (Int32.ofNat o), .int (Int32.ofNat len), .null] 6)) (T8.setTop (mkF m 45 #[.val (.ref a), .val (.ref b), .val (.int (Int32.ofNat o)), .val (.int (Int32.ofNat len)), .val .null, .val (.ref s.heap.size)] [.int (Int32.ofNat len), .ref s.heap.size, .ref a])) := c9.trans (by
      refine XS.astore X8.here hexec rfl (hb hbytes d39) rfl rfl rfl ?_
      refine XS.aloadN X8.here hexec rfl (hb hbytes d41) rfl rfl ?_
      refine XS.aload X8.here hexec rfl (hb hbytes d42) rfl rfl ?_
      refine XS.iloadN X8.here hexec rfl (hb hbytes d44) rfl ?_
      exact Steps.refl _)
    rw [n4]; exact hc
  obtain ⟨v11, T11, X11, E11, g11⟩ := X8.callS hexec (CodL.law l s.heap.size N) hown (wks W (staticW "java/lang/String" 47 CodL.yN)) (wk W CodL.tab) (W := 1) (Nat.le_of_ble_eq_true rfl) (Nat.le_of_ble_eq_true rfl) (Nat.le_refl _) (by show 0 + len + 0 ≤ len; omega) (g := (mkF m 45 #[.val (.ref a), .val (.ref b), .val (.int (Int32.ofNat o)), .val (.int (Int32.ofNat len)), .val .null, .val (.ref s.heap.size)] [.int (Int32.ofNat N.slots.size), .ref s.heap.size, .ref a])) rfl (by rw [hml]; rfl) c10 (argsL := [.ref s.heap.size, .int (Int32.ofNat N.slots.size)]) (rest := [.ref a]) rfl rfl (by show 2 * 0 + (1 + 0) ≤ _; decide) (hb hbytes d45) (⟨rfl, n1⟩)
  obtain ⟨rfl, q11⟩ := E11
  have hB11 := hB1.mv (X8.warmed.alike.symm.trans X11.warmed.alike) q11
  have c12 : Steps p.tables e below (s₁.setTop (entryFrame m #[.ref a, .ref b, .int (Int32.ofNat o), .int (Int32.ofNat len), .null] 6)) (T11.setTop (mkF m 48 #[.val (.ref a), .val (.ref b), .val (.int (Int32.ofNat o)), .val (.int (Int32.ofNat len)), .val .null, .val (.ref s.heap.size)] [.int 0, .ref a])) := g11
  obtain ⟨T13, X13, p13, bl13, sl13, st13⟩ := X11.finit hexec hown (wk W (.fieldLink "java/lang/String" 15 "java/lang/String" "coder" "B")) (Or.inr ⟨_, (wk W (.laysFinal "java/lang/String" "java/lang/String" "coder" "B"))⟩) (Or.inl ⟨rfl, hnm⟩) f2 (Or.inl rfl) hB11 (t := .byte) (by decide +kernel) rfl (g := (mkF m 48 #[.val (.ref a), .val (.ref b), .val (.int (Int32.ofNat o)), .val (.int (Int32.ofNat len)), .val .null, .val (.ref s.heap.size)] [.int 0, .ref a])) rfl (rest := []) rfl (hb hbytes d48)
  have c14 : Steps p.tables e below (s₁.setTop (entryFrame m #[.ref a, .ref b, .int (Int32.ofNat o), .int (Int32.ofNat len), .null] 6)) (T13.setTop (mkF m 54 #[.val (.ref a), .val (.ref b), .val (.int (Int32.ofNat o)), .val (.int (Int32.ofNat len)), .val .null, .val (.ref s.heap.size)] [.ref s.heap.size, .ref a])) := (c12.trans (st13 _ (Steps.refl _))).trans (by
    refine XS.aloadN X13.here hexec rfl (hb hbytes d51) rfl rfl ?_
    refine XS.aload X13.here hexec rfl (hb hbytes d52) rfl rfl ?_
    exact Steps.refl _)
  obtain ⟨T15, X15, p15, bl15, sl15, st15⟩ := X13.finit hexec hown (wk W (.fieldLink "java/lang/String" 9 "java/lang/String" "value" "[B")) (Or.inr ⟨_, (wk W (.laysFinal "java/lang/String" "java/lang/String" "value" "[B"))⟩) (Or.inl ⟨rfl, hnm⟩) f1 (Or.inl rfl) bl13 (t := (.array .byte)) (by decide +kernel) rfl (g := (mkF m 54 #[.val (.ref a), .val (.ref b), .val (.int (Int32.ofNat o)), .val (.int (Int32.ofNat len)), .val .null, .val (.ref s.heap.size)] [.ref s.heap.size, .ref a])) rfl (rest := []) rfl (hb hbytes d54)
  have c16 : Steps p.tables e below (s₁.setTop (entryFrame m #[.ref a, .ref b, .int (Int32.ofNat o), .int (Int32.ofNat len), .null] 6)) (T15.setTop (mkF m 57 #[.val (.ref a), .val (.ref b), .val (.int (Int32.ofNat o)), .val (.int (Int32.ofNat len)), .val .null, .val (.ref s.heap.size)] [])) := c14.trans (st15 _ (Steps.refl _))
  have ap := apart (Or.inr ⟨_, (wk W (.laysFinal "java/lang/String" "java/lang/String" "value" "[B"))⟩) (Or.inr ⟨_, (wk W (.laysFinal "java/lang/String" "java/lang/String" "coder" "B"))⟩) f1 f2 (t₁ := .array .byte) (t₂ := .byte) (by decide +kernel) (by decide +kernel) (by decide)
  have al := X8.warmed.alike.symm.trans X15.warmed.alike
  have n7 : T11.heap[s.heap.size]? = some N := by rw [q11]; exact n1.1
  exact ⟨T15, none, _, _, _, X15, by simp, rfl, by omega, (fun _ => rfl), ⟨rfl, _, N, bl15, ((Same.refl D _).set _ (by simp)).set _ (by simp), sl15, (Cell.slots_setSlot_ne _ ap).trans sl13, n1.keep al (p15.other hne (p13.other hne n7)), n2, by rw [al.findClass]; exact n3, n4, n5, fun y c h1 h2 => p15.other h1 (p13.other h1 (by rw [q11]; exact n6 y c h2)), by rw [p15.2.2, p13.2.2, q11]; exact z8⟩, fun fs hl => c16.trans (X15.returnOut hexec hret (hb hbytes d57) hl)⟩
end New4
namespace New1
def yN : MethodName := ⟨"java/lang/String", "<init>", "([C)V"⟩
abbrev yB : ByteArray := jdk_42_method_3_code
theorem d0 : decode yB 0 = .ok (.aload_n 0, 1) := by decide +kernel
theorem d1 : decode yB 1 = .ok (.aload_n 1, 1) := by decide +kernel
theorem d2 : decode yB 2 = .ok (.iconst 0, 1) := by decide +kernel
theorem d3 : decode yB 3 = .ok (.aload_n 1, 1) := by decide +kernel
theorem d4 : decode yB 4 = .ok (.arraylength, 1) := by decide +kernel
theorem d5 : decode yB 5 = .ok (.aconst_null, 1) := by decide +kernel
theorem d6 : decode yB 6 = .ok (.invokespecial 27, 3) := by decide +kernel
theorem d9 : decode yB 9 = .ok (.return_, 1) := by decide +kernel
def site : List Cond := [New4.tab] ++ initW "java/lang/String" 27 New4.yN
def tab : Cond := tabOf yN yB 2 none site
def P (a : Addr) (D : Cell) (fV fC : Field) (b : Addr) (A : Cell) (z : Int32) (args : Array Value) (s : State) : Prop := args = #[.ref a, .ref b] ∧ Blank "java/lang/String" a D s ∧ Found "java/lang/String" "value" "[B" fV s ∧ Found "java/lang/String" "coder" "B" fC s ∧ Ch b A s ∧ StaticIs s "java/lang/String" "COMPACT_STRINGS" "Z" (.int z) ∧ ¬ z = 0 ∧ 0 < A.slots.size ∧ A.slots.size ≤ 536870912 ∧ ∀ i, i < A.slots.size → ¬ 255 < cv A i
def E (a : Addr) (D : Cell) (fV fC : Field) (A : Cell) (r : Option Value) (s u : State) : Prop := Got a D fV fC A 0 A.slots.size r s u
/-- new String(chars), not empty, no char above 255: a Latin-1 String of their low bytes -/
theorem law (l : Launch) (a : Addr) (D : Cell) (fV fC : Field) (b : Addr) (A : Cell) (z : Int32) : Law l yN 2 1 3 52 yB 2 none site (P a D fV fC b A z) (E a D fV fC A) [⟨a, fC.slot⟩, ⟨a, fV.slot⟩] 1 A.slots.size := by
  refine Law.of_walk (plainFor_of_name (by decide +kernel)) (by decide +kernel) (by decide +kernel) (by decide) (fun _ _ h => by rw [h.1]; rfl) (fun _ U U' hal hh h => ⟨h.1, h.2.1.mv hal hh, h.2.2.1.al hal, h.2.2.2.1.al hal, h.2.2.2.2.1.mv hal hh, h.2.2.2.2.2.1.there hal hh, h.2.2.2.2.2.2⟩) (fun r U U' V V' h1 hal h2 h => Got.mv r U U' V V' h1 hal h2 h) ?_
  intro p e s m args below meth c s₁ X0 hexec hbytes hml hret hlk hnm hown hh0 W hP
  obtain ⟨rfl, hB, f1, f2, hA, s1, hz, l0, l2, hp⟩ := hP
  have c1 : Steps p.tables e below (s₁.setTop (entryFrame m #[.ref a, .ref b] 2)) (s₁.setTop (mkF m 0 #[.val (.ref a), .val (.ref b)] [])) := entry rfl
  have c2 : Steps p.tables e below (s₁.setTop (entryFrame m #[.ref a, .ref b] 2)) (s₁.setTop (mkF m 6 #[.val (.ref a), .val (.ref b)] [.null, .int (Int32.ofNat A.slots.size), .int 0, .ref b, .ref a])) := c1.trans (by
    refine XS.aloadN X0.here hexec rfl (hb hbytes d0) rfl rfl ?_
    refine XS.aloadN X0.here hexec rfl (hb hbytes d1) rfl rfl ?_
    refine iconstV X0.here hexec rfl 0 (hb hbytes d2) (by decide) ?_
    refine XS.aloadN X0.here hexec rfl (hb hbytes d3) rfl rfl ?_
    refine X0.alen hexec (hA.1.mv X0.warmed.alike hh0) rfl rfl (hb hbytes d4) ?_
    refine XS.aconstNull X0.here hexec rfl (hb hbytes d5) ?_
    exact Steps.refl _)
  obtain ⟨v3, T3, X3, E3, g3⟩ := X0.callN hexec (New4.law l a D fV fC b A z 0 A.slots.size) rfl hown (wks W (initW "java/lang/String" 27 New4.yN)) (W New4.tab (by simp only [site, List.mem_cons, List.mem_append, true_or, or_true])) (W := 0) (Nat.le_of_ble_eq_true rfl) (Nat.le_of_ble_eq_true rfl) (Nat.le_refl _) (by show 0 + A.slots.size ≤ A.slots.size; omega) (g := (mkF m 6 #[.val (.ref a), .val (.ref b)] [.null, .int (Int32.ofNat A.slots.size), .int (Int32.ofNat 0), .ref b, .ref a])) rfl (by rw [hml]; rfl) c2 (argsL := [.ref b, .int (Int32.ofNat 0), .int (Int32.ofNat A.slots.size), .null]) (rest := []) rfl rfl (by show 2 * 0 + 0 ≤ _; decide) (hb hbytes d6) (⟨rfl, hB.mv X0.warmed.alike hh0, f1.al X0.warmed.alike, f2.al X0.warmed.alike, hA.mv X0.warmed.alike hh0, s1.there X0.warmed.alike hh0, hz, l0, by omega, l2, fun i hi => by rw [Nat.zero_add]; exact hp i hi⟩)
  have e0 := Got.mv _ s₁ s _ _ hh0.symm (Vm.Alike.refl _) rfl E3
  obtain rfl := e0.1
  have c4 : Steps p.tables e below (s₁.setTop (entryFrame m #[.ref a, .ref b] 2)) (T3.setTop (mkF m 9 #[.val (.ref a), .val (.ref b)] [])) := g3
  exact ⟨T3, none, _, _, _, X3, by simp, rfl, by omega, (fun _ => rfl), e0, fun fs hl => c4.trans (X3.returnOut hexec hret (hb hbytes d9) hl)⟩
theorem pays {l : Launch} {R : Room} {p : Program} {e : Env} {below : List Frame} {s : State} {sargs : Array Value} {len W : Nat} (a : Addr) (D : Cell) (fV fC : Field) (b : Addr) (A : Cell) (z : Int32) (htab : tab.before sargs s = true) (hfr : 4 ≤ R.frames) (hlo : W + 65 ≤ R.locals) :
    Back l R p e below s sargs yN len W (fun A₁ a₁ => A₁.cells + 1 ≤ R.cells ∧ A₁.slots + A.slots.size ≤ R.slots ∧ P a D fV fC b A z a₁ A₁.U) (fun A₁ _ v₁ B₁ => E a D fV fC A v₁ A₁.U B₁.U ∧ B₁.locs = A₁.locs ++ [⟨a, fC.slot⟩, ⟨a, fV.slot⟩] ∧ B₁.cells = A₁.cells + 1 ∧ B₁.slots = A₁.slots + A.slots.size) :=
  (law l a D fV fC b A z).pays htab hfr (by omega)
end New1
/-- the byte, read back as charAt reads it, is the char -/
theorem lo8_mask {x : Int32} (h0 : ¬ x < 0) (h1 : ¬ 255 < x) : lo8 x &&& 255 = x := by
  have t : ∀ k : Fin 256, lo8 (Int32.ofNat k.val) &&& 255 = Int32.ofNat k.val := by decide +kernel
  rw [Int32.lt_iff_toInt_lt] at h0 h1
  have e0 : (0 : Int32).toInt = 0 := rfl
  have e1 : (255 : Int32).toInt = 255 := rfl
  obtain ⟨k, hk⟩ : ∃ k : Nat, x.toInt = k := ⟨x.toInt.toNat, by omega⟩
  have hx : x = Int32.ofNat k := Int32.toInt_inj.mp (by rw [hk, Int32.toInt_ofNat_small (by omega)])
  rw [hx]
  exact t ⟨k, by omega⟩
end StrChars
namespace StrChars.Road
open Jvm Sem ClassFile Op Lib Jvm.Stand Jvm.Free Jvm.Free.XT
open Jvm.Lib.Cold (StaticIs)
abbrev ST : String := "java/lang/String"
/-- every table word that New1's law asks, flat -/
abbrev words : List Jvm.Cond := [.code New1.yN New1.yB 2 none, .initialized ST, .methodLink ST 27 New4.yN, .instanceMethod New4.yN,
  .code New4.yN New4.yB 6 none, .fieldLink ST 38 ST "COMPACT_STRINGS" "Z", .laysFinal ST ST "value" "[B", .fieldLink ST 9 ST "value" "[B", .laysFinal ST ST "coder" "B", .fieldLink ST 15 ST "coder" "B",
  .methodLink ST 1 Lib.objectInit, .instanceMethod Lib.objectInit, .code Lib.objectInit ⟨#[0xb1]⟩ 1 none, .methodLink ST 177 Cmp3.yN, .static Cmp3.yN, .methodLink ST 47 CodL.yN, .static CodL.yN,
  .code Cmp3.yN Cmp3.yB 6 (some (.array .byte)), .initialized U16, .arrayClass .byte, .methodLink U16 115 Cmp5.yN, .static Cmp5.yN, .code Cmp5.yN Cmp5.yB 7 (some .int), .code CodL.yN CodL.yB 2 (some .byte)]
theorem tab_of {a : Array Value} {s : State} (h : ∀ w ∈ words, w.before a s = true) : New1.tab.before a s = true := by
  have h5 : Cmp5.tab.before a s = true := unparts (wk h (.code Cmp5.yN Cmp5.yB 7 (some .int))) (wks h (.initialized Cmp5.yN.cls :: Cmp5.site))
  have hc : CodL.tab.before a s = true := unparts (wk h (.code CodL.yN CodL.yB 2 (some .byte))) (wks h (.initialized CodL.yN.cls :: CodL.site))
  have q5 : ∀ w ∈ Cmp5.tab :: words, w.before a s = true := fun w hw => (List.mem_cons.mp hw).elim (fun e => e ▸ h5) (h w)
  have h3 : Cmp3.tab.before a s = true := unparts (wk q5 (.code Cmp3.yN Cmp3.yB 6 (some (.array .byte)))) (wks q5 (.initialized Cmp3.yN.cls :: Cmp3.site))
  have q3 : ∀ w ∈ Cmp3.tab :: CodL.tab :: words, w.before a s = true := fun w hw => (List.mem_cons.mp hw).elim (fun e => e ▸ h3) fun hw => (List.mem_cons.mp hw).elim (fun e => e ▸ hc) (h w)
  have h4 : New4.tab.before a s = true := unparts (wk q3 (.code New4.yN New4.yB 6 none)) (wks q3 (.initialized New4.yN.cls :: New4.site))
  have q4 : ∀ w ∈ New4.tab :: words, w.before a s = true := fun w hw => (List.mem_cons.mp hw).elim (fun e => e ▸ h4) (h w)
  exact unparts (wk q4 (.code New1.yN New1.yB 2 none)) (wks q4 (.initialized New1.yN.cls :: New1.site))
/-- the words ride from the start Z to the walk's own state -/
theorem moved {Z s : State} {a0 args : Array Value} (hZ : Z.Warmed39 s.vm) (hw : ∀ d ∈ words, d.before a0 Z = true) : ∀ d ∈ words, d.before args s = true := fun d hd => by
  have q := hw d hd
  have t : ∀ d ∈ words, d = .arrayClass .byte ∨ (d.onTables && d.keepsFace) = true := by decide +kernel
  rcases t d hd with rfl | t
  · exact RoadKit.mvA hZ q
  · exact RoadKit.mv hZ q t
/-- WHAT COMES BACK, over the tables of the start Z: h the heap at the call, h' behind it -/
def Q (Z : State) (x : Addr) (A : Cell) (h : Heap) (v : Option Value) (h' : Heap) (L : List Loc) : Prop := v = none ∧ (∀ y ∈ L, y.base = x) ∧ RoadKit.Keep h h' [x] ∧ h'.size = h.size + 1 ∧ RoadKit.Exa Z h' x ST ∧ RoadKit.Fld Z h' x ST "value" "[B" (.ref h.size) ∧ RoadKit.Fld Z h' x ST "coder" "B" (.int 0) ∧
  (∃ V : Cell, RoadKit.Arr Z h' h.size V .byte ∧ V.vm = .none ∧ Z.vm.findClass "[B" = some V.cls ∧ V.slots.size = A.slots.size ∧ ∀ j, j < A.slots.size → V.slots[j]? = some (.int (lo8 (cv A j)))) ∧
  ∀ (O n d : String) (w : Value), RoadKit.Fld Z h x O n d w → RoadKit.slotOf Z O n d ≠ RoadKit.slotOf Z ST "value" "[B" → RoadKit.slotOf Z O n d ≠ RoadKit.slotOf Z ST "coder" "B" → RoadKit.Fld Z h' x O n d w
/-- **new String(chars) AT A CALL, IN THE ROAD'S FORM**: for specialBack behind newO: x the fresh String, b the char[] with the cell A -/
theorem back {p : Program} {l : Launch} {e : Env} {R : Room} {s : State} {args : Array Value} {below : List Frame} {len W : Nat} {Z : State} {a0 : Array Value} {h : Heap} (hZ : Z.Warmed39 s.vm) (hw : ∀ d ∈ words, d.before a0 Z = true) {kI : Nat} (wi : (Jvm.Cond.instantiable ST kI).before a0 Z = true)
    {x b : Addr} {A : Cell} {z : Int32} {v0 c0 : Value} (E : RoadKit.Exa Z h x ST) (V : RoadKit.Fld Z h x ST "value" "[B" v0) (C : RoadKit.Fld Z h x ST "coder" "B" c0) (K : RoadKit.Arr Z h b A .char) (hty : Typed .char A) (S : RoadKit.Sta Z h ST "COMPACT_STRINGS" "Z" (.int z)) (hz : ¬ z = 0)
    (l0 : 0 < A.slots.size) (l2 : A.slots.size ≤ 536870912) (hp : ∀ i, i < A.slots.size → ¬ 255 < cv A i) (hfr : 4 ≤ R.frames) (hlo : W + 65 ≤ R.locals) :
    Back l R p e below s args New1.yN len W (fun P a => a = #[.ref x, .ref b] ∧ P.U.heap = h ∧ P.cells + 1 ≤ R.cells ∧ P.slots + A.slots.size ≤ R.slots)
      (fun P _ v B => ∃ L, Q Z x A h v B.U.heap L ∧ B.locs = P.locs ++ L ∧ B.cells = P.cells + 1 ∧ B.slots = P.slots + A.slots.size) := by
  intro m meth c P g ig mk a X hg hsize hdg hW hn hp'
  obtain ⟨rfl, rfl, r1, r2⟩ := hp'
  have al : Z.vm.Alike P.U.vm := hZ.alike.trans X.warmed.alike
  obtain ⟨D, cfV, kV, iV, fV, hD, gV, stV, knV, obV, asV, slV⟩ := id V
  obtain ⟨D', cfC, kC, iC, fC, hD', gC, stC, -, -, asC, slC⟩ := id C
  cases hD.symm.trans hD'
  obtain ⟨D2, kD, e1, e2, e3, e4, e5⟩ := id E
  cases hD.symm.trans e1
  obtain ⟨c2, k2, i1, i2, i3, -⟩ := Cond.instantiable_spec wi
  cases e2.symm.trans i1
  cases e3.symm.trans i2
  obtain ⟨kU, u1, u2⟩ := al.2.2 _ _ e3
  have hB : Blank ST x D P.U := ⟨hD, ⟨knV, fun q hq => by rw [hq] at obV; cases obV⟩, by rw [al.findClass]; exact e2, kU, u1, by rw [u2]; exact i3, by rw [u2]; exact e5 i3⟩
  have F1 : Found ST "value" "[B" fV P.U := ⟨SBG.found_only al ⟨cfV, kV, iV, gV⟩, stV⟩
  have F2 : Found ST "coder" "B" fC P.U := ⟨SBG.found_only al ⟨cfC, kC, iC, gC⟩, stC⟩
  have hA : Ch b A P.U := ⟨⟨K.1, State.isArrayOf_alike al K.2.1, K.2.2, by omega⟩, hty⟩
  have hS : StaticIs P.U ST "COMPACT_STRINGS" "Z" (.int z) := by
    obtain ⟨cfS, iS, kS, fS, st, cS, t1, t2, t3, t4, t5, t6, t7⟩ := S
    exact StaticIs.there (s := { Z with heap := P.U.heap }) ⟨cfS, iS, kS, fS, st, cS, t1, t2, t3, t4, t5, (fun q => by rw [q] at t6; cases t6), t7⟩ al rfl
  obtain ⟨v, B, X', ⟨⟨hv, E', V', q1, q2, q3, q4, q5, q6, q7, q8, q9, q10, q11⟩, hl, hc, hs⟩, st⟩ := New1.pays x D fV fC b A z (tab_of (moved hZ hw)) hfr hlo m meth c P g ig mk _ X hg hsize hdg hW hn ⟨r1, r2, rfl, hB, F1, F2, hA, hS, hz, l0, l2, hp⟩
  have al' : Z.vm.Alike B.U.vm := hZ.alike.trans X'.warmed.alike
  have hsz : E'.slots.size = D.slots.size := by
    obtain ⟨-, -, -, kB, w1, w2, w3⟩ := q1
    obtain ⟨kB', y1, y2⟩ := al'.2.2 _ _ e3
    rw [q2.2.1] at w1
    cases w1.symm.trans y1
    rw [w3, e5 i3, y2]
  refine ⟨v, B, X', ⟨_, ⟨hv, ?_, ⟨by omega, fun y cy hy hn' => q10 y cy (by simpa using hn') hy, fun y cy hy => ?_⟩, q11, ⟨E', _, q1.1, by rw [q2.2.1]; exact e2, by rw [q2.2.1]; exact e3, by rw [q2.1]; exact obV, fun _ => by rw [hsz]; exact e5 i3⟩,
    ⟨E', cfV, kV, iV, fV, q1.1, gV, stV, by rw [q2.1]; exact knV, by rw [q2.1]; exact obV, by rw [q2.2.1]; exact asV, q3⟩, ⟨E', cfC, kC, iC, fC, q1.1, gC, stC, by rw [q2.1]; exact knV, by rw [q2.1]; exact obV, by rw [q2.2.1]; exact asC, q4⟩,
    ⟨V', ⟨q5.1, State.isArrayOf_alike al'.symm q5.2.1, q5.2.2.1⟩, q6, by rw [← al'.findClass]; exact q7, q8, fun j hj => by have := q9 j hj; rwa [Nat.zero_add] at this⟩, fun O n d w F n1 n2 => ?_⟩, hl, hc, hs⟩, st⟩
  · intro y hy
    simp only [List.mem_cons, List.not_mem_nil, or_false] at hy
    rcases hy with rfl | rfl <;> rfl
  · by_cases q : y = x
    · subst q
      cases hD.symm.trans hy
      exact ⟨E', q1.1, q2.2.1, q2.1, hsz⟩
    · exact ⟨cy, q10 y cy q hy, rfl, rfl, rfl⟩
  · obtain ⟨D3, cf, k, i, f, g1, g2, g3, g4, g5, g6, g7⟩ := F
    cases hD.symm.trans g1
    simp only [RoadKit.slotOf, g2, gV, gC, Option.map_some, Option.getD_some] at n1 n2
    exact ⟨E', cf, k, i, f, q1.1, g2, g3, by rw [q2.1]; exact g4, by rw [q2.1]; exact g5, by rw [q2.2.1]; exact g6, by rw [q2.2.2 f.slot (by simp [n1, n2])]; exact g7⟩
end StrChars.Road
namespace StrChars.Road
open Jvm Sem ClassFile Op Lib Jvm.Stand Jvm.Free Jvm.Free.XT
/-- WHAT COMES BACK, the byte[] as a list of values -/
def QA (Z : State) (x : Addr) (zn : Int32) (cs : List Int32) (h : Heap) (v : Option Value) (h' : Heap) (L : List Loc) : Prop := v = none ∧ (∀ y ∈ L, y.base = x) ∧ RoadKit.Keep h h' [x] ∧ h'.size = h.size + 1 ∧ RoadKit.Exa Z h' x ST ∧ RoadKit.Fld Z h' x ST "value" "[B" (.ref h.size) ∧ RoadKit.Fld Z h' x ST "coder" "B" (.int 0) ∧
  (∃ kb, Z.vm.findClass "[B" = some kb ∧ RoadKit.Arv Z h' h.size kb .byte zn (cs.map fun c => .int (lo8 c)) (.int 0)) ∧
  ∀ (O n d : String) (w : Value), RoadKit.Fld Z h x O n d w → RoadKit.slotOf Z O n d ≠ RoadKit.slotOf Z ST "value" "[B" → RoadKit.slotOf Z O n d ≠ RoadKit.slotOf Z ST "coder" "B" → RoadKit.Fld Z h' x O n d w
/-- **new String(chars) AT A CALL, THE ARRAYS AS LISTS**: the char[] at b holds cs, not empty, no char above 255 -/
theorem backArv {p : Program} {l : Launch} {e : Env} {R : Room} {s : State} {args : Array Value} {below : List Frame} {len W : Nat} {Z : State} {a0 : Array Value} {h : Heap} (hZ : Z.Warmed39 s.vm) (hw : ∀ d ∈ words, d.before a0 Z = true) {kI : Nat} (wi : (Jvm.Cond.instantiable ST kI).before a0 Z = true)
    {x b : Addr} {k : ClassId} {zn z : Int32} {cs : List Int32} {dv v0 c0 : Value} (E : RoadKit.Exa Z h x ST) (V : RoadKit.Fld Z h x ST "value" "[B" v0) (C : RoadKit.Fld Z h x ST "coder" "B" c0) (K : RoadKit.Arv Z h b k .char zn (cs.map Value.int) dv) (S : RoadKit.Sta Z h ST "COMPACT_STRINGS" "Z" (.int z)) (hz : ¬ z = 0)
    (hlen : zn.toNatClampNeg = cs.length) (h0 : 0 < cs.length) (hbig : cs.length ≤ 536870912) (hall : ∀ c ∈ cs, ¬ 255 < c) (hfr : 4 ≤ R.frames) (hlo : W + 65 ≤ R.locals) :
    Back l R p e below s args New1.yN len W (fun P a => a = #[.ref x, .ref b] ∧ P.U.heap = h ∧ P.cells + 1 ≤ R.cells ∧ P.slots + cs.length ≤ R.slots)
      (fun P _ v B => ∃ L, QA Z x zn cs h v B.U.heap L ∧ B.locs = P.locs ++ L ∧ B.cells = P.cells + 1 ∧ B.slots = P.slots + cs.length) := by
  obtain ⟨A, K1, K2, K3, K4, K5, K6⟩ := K
  have e : A.slots.size = cs.length := K3.trans hlen
  have hat : ∀ (i : Nat) (hi : i < cs.length), A.slots[i]? = some (.int cs[i]) := fun i hi => by rw [K5 i (by omega)]; simp [List.getD_eq_getElem?_getD, hi]
  have hcv : ∀ (i : Nat) (hi : i < cs.length), cv A i = cs[i] := fun i hi => by unfold cv; rw [hat i hi]
  have hty : Typed .char A := fun i v hv => by
    have hi : i < A.slots.size := (Array.getElem?_eq_some_iff.mp hv).1
    have q := K5 i hi
    rw [hv] at q
    rw [Option.some.inj q]
    exact K6 i hi
  refine Back.mono (back hZ hw wi E V C K1 hty S hz (by omega) (by omega) (fun i hi => by rw [hcv i (by omega)]; exact hall _ (List.getElem_mem _)) hfr hlo) (fun P a hp => ⟨hp.1, hp.2.1, hp.2.2.1, by rw [e]; exact hp.2.2.2⟩) (fun P a v B hp hq => ?_)
  obtain ⟨L, ⟨q1, q2, q3, q4, q5, q6, q7, ⟨V', v1, v2, v3, v4, v5⟩, q9⟩, hl, hc, hs⟩ := hq
  refine ⟨L, ⟨q1, q2, q3, q4, q5, q6, q7, ⟨V'.cls, v3, V', v1, rfl, by rw [v4, e, hlen], K4, fun i hi => ?_, fun i hi => ?_⟩, q9⟩, hl, hc, by rw [hs, e]⟩
  · have hi' : i < cs.length := by omega
    rw [v5 i (by omega), hcv i hi']; simp [List.getD_eq_getElem?_getD, hi']
  · have hi' : i < cs.length := by omega
    simp only [List.getD_eq_getElem?_getD, List.getElem?_map, List.getElem?_eq_getElem hi', Option.map_some, Option.getD_some]
    exact fits_lo8 _
end StrChars.Road
namespace StrChars.Road
open Jvm Sem ClassFile Op Lib Jvm.Stand Jvm.Free Jvm.Free.XT
/-- WHAT COMES BACK, in the writer's own shape -/
def QV (Z : State) (x : Addr) (N : Int32) (bs : List Int32) (h : Heap) (n0 : Nat) (v : Option Value) (h' : Heap) (L : List Loc) : Prop := v = none ∧ RoadKit.Fr n0 L ∧ RoadKit.Keep h h' [x] ∧ RoadKit.Exa Z h' x ST ∧ RoadKit.Fld Z h' x ST "coder" "B" (.int 0) ∧
  ∃ (t : Addr) (kb : ClassId), n0 ≤ t ∧ h.size ≤ t ∧ ¬ t = x ∧ RoadKit.Fld Z h' x ST "value" "[B" (.ref t) ∧ RoadKit.Arv Z h' t kb .byte N (bs.map Value.int) (.int 0)
/-- **new String(chars) AT A CALL, FOR THE WRITER**: a char[] of n known ints, each 0 to 255 -/
theorem backV {p : Program} {l : Launch} {e : Env} {R : Room} {s : State} {args : Array Value} {below : List Frame} {len W : Nat} {Z : State} {a0 : Array Value} {h : Heap} (hZ : Z.Warmed39 s.vm) (hw : ∀ d ∈ words, d.before a0 Z = true) {kI : Nat} (wi : (Jvm.Cond.instantiable ST kI).before a0 Z = true)
    {x b : Addr} {kC : ClassId} {cs bs : List Int32} {d v0 c0 : Value} {z N : Int32} {n n0 : Nat} (hx0 : n0 ≤ x) (hh0 : n0 ≤ h.size) (E : RoadKit.Exa Z h x ST) (V : RoadKit.Fld Z h x ST "value" "[B" v0) (C : RoadKit.Fld Z h x ST "coder" "B" c0) (K : RoadKit.Arv Z h b kC .char N (cs.map Value.int) d) (S : RoadKit.Sta Z h ST "COMPACT_STRINGS" "Z" (.int z)) (hz : ¬ z = 0)
    (hn : cs.length = n) (hN : N = Int32.ofNat n) (l0 : 0 < n) (l2 : n ≤ 4000) (hp : ∀ c ∈ cs, ¬ c < 0 ∧ ¬ (255 : Int32) < c) (hb : bs = cs.map (fun c => c.toInt8.toInt32)) (hfr : 4 ≤ R.frames) (hlo : W + 65 ≤ R.locals) :
    Back l R p e below s args (⟨"java/lang/String", "<init>", "([C)V"⟩ : MethodName) len W (fun P a => a = #[.ref x, .ref b] ∧ P.U.heap = h ∧ P.cells + 1 ≤ R.cells ∧ P.slots + n ≤ R.slots)
      (fun P _ v B => ∃ L, QV Z x N bs h n0 v B.U.heap L ∧ B.locs = P.locs ++ L ∧ B.cells = P.cells + 1 ∧ B.slots = P.slots + n) := by
  subst hn hN hb
  refine Back.mono (backArv hZ hw wi E V C K S hz (n32 (by omega)) l0 (by omega) (fun c hc => (hp c hc).2) hfr hlo) (fun P a hp => hp) (fun P a v B hp hq => ?_)
  obtain ⟨L, ⟨q1, q2, q3, q4, q5, q6, q7, ⟨kb, v1, v2⟩, q9⟩, hl, hc, hs⟩ := hq
  exact ⟨L, ⟨q1, fun y hy => by rw [q2 y hy]; exact hx0, q3, q5, q7, h.size, kb, hh0, Nat.le_refl _, Nat.ne_of_gt E.lt, q6, by rw [List.map_map]; exact v2⟩, hl, hc, hs⟩
end StrChars.Road
namespace StrChars
open Jvm Sem ClassFile Op Lib Jvm.Stand Jvm.Free.XT Jvm.Free.ALB Jvm.Free.JM Jvm.Free
open Jvm.Lib.Cold (StaticIs)
def hi8 (x : Int32) : Int32 := lo8 (x >>> ((8 : Int32) &&& 31))
/-- what StringUTF16.getChar makes of two bytes -/
def pairCh (u v : Int32) : Int32 := (((u &&& 255) <<< ((0 : Int32) &&& 31)) ||| ((v &&& 255) <<< ((8 : Int32) &&& 31))).toUInt32.toUInt16.toUInt32.toInt32
theorem shr0 (c : Int32) : c >>> ((0 : Int32) &&& 31) = c := by
  have e : ((0 : Int32) &&& 31) = 0 := by decide
  rw [e]
  apply Int32.toBitVec_inj.mp
  rw [Int32.toBitVec_shiftRight]
  have e1 : ((0 : Int32).toBitVec.smod 32) = 0#32 := by decide
  rw [e1, BitVec.sshiftRight_eq']
  exact BitVec.sshiftRight_zero
theorem lo8_and (x : Int32) : (lo8 x &&& 255).toBitVec.toNat = x.toBitVec.toNat % 256 := by
  have h : (lo8 x).toBitVec = (x.toBitVec.signExtend 8).signExtend 32 := by rw [lo8, Int8.toBitVec_toInt32, Int32.toBitVec_toInt8]
  rw [Int32.toBitVec_and, BitVec.toNat_and, h]
  have e : ((x.toBitVec.signExtend 8).signExtend 32).toNat % 256 = x.toBitVec.toNat % 256 := by
    rw [BitVec.toNat_signExtend]
    have hlt := x.toBitVec.isLt
    simp only [BitVec.toNat_setWidth, BitVec.toNat_signExtend]
    split <;> split <;> omega
  rw [← e]
  exact Nat.and_two_pow_sub_one_eq_mod _ 8
theorem pair_says {c : Int32} (h0 : ¬ c < 0) (h1 : ¬ 65535 < c) : pairCh (lo8 c) (hi8 c) = c := by
  rw [Int32.lt_iff_toInt_lt] at h0 h1
  have e0 : (0 : Int32).toInt = 0 := rfl
  have e1 : (65535 : Int32).toInt = 65535 := rfl
  have hc : c.toInt = c.toBitVec.toNat := by
    have := c.toBitVec.isLt
    have e : c.toInt = c.toBitVec.toInt := rfl
    rw [e] at h0 h1
    rw [e]
    rw [BitVec.toInt_eq_toNat_cond] at h0 h1 ⊢
    split at h0 <;> split <;> omega
  have hn : c.toBitVec.toNat < 65536 := by omega
  have a1 := lo8_and c
  have a2 : (hi8 c &&& 255).toBitVec.toNat = c.toBitVec.toNat / 256 := by
    rw [hi8, lo8_and]
    have e : ((8 : Int32) &&& 31) = 8 := by decide
    rw [e, Int32.toBitVec_shiftRight]
    have e2 : ((8 : Int32).toBitVec.smod 32) = 8#32 := by decide
    rw [e2, BitVec.sshiftRight_eq', BitVec.toNat_sshiftRight_of_msb_false (by rw [BitVec.msb_eq_false_iff_two_mul_lt]; omega)]
    show c.toBitVec.toNat >>> 8 % 256 = _
    rw [Nat.shiftRight_eq_div_pow]
    omega
  unfold pairCh
  apply Int32.toBitVec_inj.mp
  apply BitVec.eq_of_toNat_eq
  have f0 : ((0 : Int32) &&& 31) = 0 := by decide
  have f8 : ((8 : Int32) &&& 31) = 8 := by decide
  rw [f0, f8]
  have g : (((lo8 c &&& 255) <<< (0 : Int32)) ||| ((hi8 c &&& 255) <<< (8 : Int32))).toBitVec.toNat = c.toBitVec.toNat := by
    rw [Int32.toBitVec_or, Int32.toBitVec_shiftLeft, Int32.toBitVec_shiftLeft]
    have s0 : ((0 : Int32).toBitVec.smod 32) = 0#32 := by decide
    have s8 : ((8 : Int32).toBitVec.smod 32) = 8#32 := by decide
    rw [s0, s8, BitVec.toNat_or]
    simp only [BitVec.shiftLeft_eq', BitVec.toNat_shiftLeft, a1, a2]
    show (c.toBitVec.toNat % 256) <<< 0 % 2 ^ 32 ||| (c.toBitVec.toNat / 256) <<< 8 % 2 ^ 32 = _
    rw [Nat.shiftLeft_zero, Nat.mod_eq_of_lt (show c.toBitVec.toNat % 256 < 2 ^ 32 by omega), Nat.mod_eq_of_lt (show (c.toBitVec.toNat / 256) <<< 8 < 2 ^ 32 by rw [Nat.shiftLeft_eq]; omega), Nat.or_comm, ← Nat.shiftLeft_add_eq_or_of_lt (by omega), Nat.shiftLeft_eq]
    omega
  show BitVec.toNat (((((lo8 c &&& 255) <<< (0 : Int32)) ||| ((hi8 c &&& 255) <<< (8 : Int32))).toBitVec.setWidth 16).setWidth 32) = _
  rw [BitVec.toNat_setWidth, BitVec.toNat_setWidth, g]
  omega
end StrChars
namespace StrChars
open Jvm Sem ClassFile Op Lib Jvm.Stand Jvm.Free.XT Jvm.Free.ALB Jvm.Free.JM Jvm.Free
open Jvm.Lib.Cold (StaticIs)
theorem shr1 {n : Nat} (h : 2 * n < 2 ^ 31) : Int32.ofNat (2 * n) >>> ((1 : Int32) &&& 31) = Int32.ofNat n := by
  have e : ((1 : Int32) &&& 31) = 1 := by decide
  rw [e]
  apply Int32.toBitVec_inj.mp
  rw [Int32.toBitVec_shiftRight]
  have e1 : ((1 : Int32).toBitVec.smod 32) = 1#32 := by decide
  have hm : (BitVec.ofNat 32 (2 * n)).toNat = 2 * n := by rw [BitVec.toNat_ofNat, Nat.mod_eq_of_lt (by omega)]
  rw [e1, BitVec.sshiftRight_eq']
  apply BitVec.eq_of_toNat_eq
  show ((BitVec.ofNat 32 (2 * n)).sshiftRight 1).toNat = (BitVec.ofNat 32 n).toNat
  rw [BitVec.toNat_sshiftRight_of_msb_false (by rw [BitVec.msb_eq_false_iff_two_mul_lt, hm]; omega), hm, BitVec.toNat_ofNat, Nat.shiftRight_eq_div_pow]
  omega
/-- charAt's cast of a byte read back -/
def chr8 (u : Int32) : Int32 := (u &&& 255).toUInt32.toUInt16.toUInt32.toInt32
theorem chr8_lo8 {c : Int32} (h0 : ¬ c < 0) (h1 : ¬ 255 < c) : chr8 (lo8 c) = c := by
  have t : ∀ k : Fin 256, (Int32.ofNat k.val).toUInt32.toUInt16.toUInt32.toInt32 = Int32.ofNat k.val := by decide +kernel
  unfold chr8
  rw [lo8_mask h0 h1]
  rw [Int32.lt_iff_toInt_lt] at h0 h1
  have e0 : (0 : Int32).toInt = 0 := rfl
  have e1 : (255 : Int32).toInt = 255 := rfl
  obtain ⟨k, hk⟩ : ∃ k : Nat, c.toInt = k := ⟨c.toInt.toNat, by omega⟩
  have hx : c = Int32.ofNat k := Int32.toInt_inj.mp (by rw [hk, Int32.toInt_ofNat_small (by omega)])
  rw [hx]
  exact t ⟨k, by omega⟩
theorem narrow_ch {c : Int32} (h0 : ¬ c < 0) (h1 : ¬ 65535 < c) : narrow .char (.int c) = .int c := by
  have q : narrow .char (.int (pairCh (lo8 c) (hi8 c))) = .int (pairCh (lo8 c) (hi8 c)) := narrow_c _
  rwa [pair_says h0 h1] at q
/-- the array's cell V codes the n chars f 0 .. f (n - 1) by the coder cd, as the JDK does: coder 1 just where some char is above 255 -/
def Cod (cd : Int32) (n : Nat) (f : Nat → Int32) (V : Cell) : Prop := (cd = 0 ∧ V.slots.size = n ∧ ∀ j, j < n → V.slots[j]? = some (.int (lo8 (f j))) ∧ ¬ 255 < f j) ∨ (cd = 1 ∧ V.slots.size = 2 * n ∧ (∀ j, j < n → V.slots[2 * j]? = some (.int (lo8 (f j))) ∧ V.slots[2 * j + 1]? = some (.int (hi8 (f j)))) ∧ ∃ j, j < n ∧ 255 < f j)
theorem Cod.cd {cd : Int32} {n : Nat} {f : Nat → Int32} {V : Cell} (h : Cod cd n f V) : cd = 0 ∨ cd = 1 := h.imp (fun q => q.1) fun q => q.1
theorem Cod.len {cd : Int32} {n : Nat} {f : Nat → Int32} {V : Cell} (h : Cod cd n f V) (hs : V.slots.size < 2 ^ 31) : Int32.ofNat V.slots.size >>> (cd &&& 31) = Int32.ofNat n := by
  rcases h with ⟨rfl, h, -⟩ | ⟨rfl, h, -⟩
  · rw [shr0, h]
  · rw [h, shr1 (by omega)]
/-- **x is a String of the n chars f 0 .. f (n - 1)**, Latin-1 or UTF-16; its array at t has the cell V -/
def Txt (x t : Addr) (V : Cell) (cd : Int32) (n : Nat) (f : Nat → Int32) (U : State) : Prop := Exact "java/lang/String" x U ∧ Has x "java/lang/String" "value" "[B" (.ref t) U ∧ Has x "java/lang/String" "coder" "B" (.int cd) U ∧ XT.Arr .byte t V U ∧ Cod cd n f V ∧ ∀ j, j < n → ¬ f j < 0 ∧ ¬ 65535 < f j
theorem Txt.mv {x t : Addr} {V : Cell} {cd : Int32} {n : Nat} {f : Nat → Int32} {U U' : State} (h : Txt x t V cd n f U) (hal : U.vm.Alike U'.vm) (hh : U'.heap = U.heap) : Txt x t V cd n f U' := ⟨h.1.mv hal hh, h.2.1.mv hal hh, h.2.2.1.mv hal hh, h.2.2.2.1.mv hal hh, h.2.2.2.2⟩
namespace Cdr
def yN : MethodName := ⟨"java/lang/String", "coder", "()B"⟩
abbrev yB : ByteArray := jdk_42_method_152_code
theorem d0 : decode yB 0 = .ok (.getstatic 38, 3) := by decide +kernel
theorem d3 : decode yB 3 = .ok (.ifCond (.eq) 10, 3) := by decide +kernel
theorem d6 : decode yB 6 = .ok (.aload_n 0, 1) := by decide +kernel
theorem d7 : decode yB 7 = .ok (.getfield 15, 3) := by decide +kernel
theorem d10 : decode yB 10 = .ok (.goto 4, 3) := by decide +kernel
theorem d14 : decode yB 14 = .ok (.ireturn, 1) := by decide +kernel
def site : List Cond := [.fieldLink "java/lang/String" 38 "java/lang/String" "COMPACT_STRINGS" "Z", .fieldLink "java/lang/String" 15 "java/lang/String" "coder" "B"]
def tab : Cond := tabOf yN yB 1 (some .byte) site
def P (x : Addr) (cd z : Int32) (args : Array Value) (s : State) : Prop := args = #[.ref x] ∧ Has x "java/lang/String" "coder" "B" (.int cd) s ∧ (cd = 0 ∨ cd = 1) ∧ StaticIs s "java/lang/String" "COMPACT_STRINGS" "Z" (.int z) ∧ ¬ z = 0
def E (cd : Int32) (r : Option Value) (s u : State) : Prop := XT.PureE (some (.int cd)) r s u
theorem law (l : Launch) (x : Addr) (cd z : Int32) : Law l yN 1 0 0 0 yB 1 (some .byte) site (P x cd z) (E cd) [] 0 0 := by
  refine Law.of_walk (plainFor_of_name (by decide +kernel)) (by decide +kernel) (by decide +kernel) (by decide) (fun _ _ h => by rw [h.1]; rfl) (fun _ U U' hal hh h => ⟨h.1, h.2.1.mv hal hh, h.2.2.1, h.2.2.2.1.there hal hh, h.2.2.2.2⟩) (fun r U U' V V' h1 hal h2 h => XT.PureE.mv r U U' V V' h1 hal h2 h) ?_
  intro p e s m args below meth c s₁ X0 hexec hbytes hml hret hlk hnm hown hh0 W hP
  obtain ⟨rfl, hx, hc, s1, hz⟩ := hP
  have c1 : Steps p.tables e below (s₁.setTop (entryFrame m #[.ref x] 1)) (s₁.setTop (mkF m 0 #[.val (.ref x)] [])) := entry rfl
  obtain ⟨T2, X2, q2, st2⟩ := X0.sget hexec hown (wk W (.fieldLink "java/lang/String" 38 "java/lang/String" "COMPACT_STRINGS" "Z")) s1 (fun _ _ h => by rw [hh0]; exact h) (g := (mkF m 0 #[.val (.ref x)] [])) rfl (hb hbytes d0)
  have hh2 := q2.trans hh0
  have c3 : Steps p.tables e below (s₁.setTop (entryFrame m #[.ref x] 1)) (T2.setTop (mkF m 7 #[.val (.ref x)] [.ref x])) := (c1.trans (st2 _ (Steps.refl _))).trans (by
    refine XS.ifNo X2.here hexec rfl (hb hbytes d3) rfl (i0_eq_f hz) ?_
    refine XS.aloadN X2.here hexec rfl (hb hbytes d6) rfl rfl ?_
    exact Steps.refl _)
  obtain ⟨T4, X4, q4, st4⟩ := X2.hget hexec hown (wk W (.fieldLink "java/lang/String" 15 "java/lang/String" "coder" "B")) (hx.mv X2.warmed.alike hh2) (g := (mkF m 7 #[.val (.ref x)] [.ref x])) rfl (rest := []) rfl (hb hbytes d7)
  have c5 : Steps p.tables e below (s₁.setTop (entryFrame m #[.ref x] 1)) (T4.setTop (mkF m 14 #[.val (.ref x)] [.int cd])) := (c3.trans (st4 _ (Steps.refl _))).trans (by
    refine XS.goto X4.here hexec rfl (pc0 := 10) rfl (hb hbytes d10) (by decide) rfl ?_
    exact Steps.refl _)
  exact ⟨T4, some (.int cd), _, _, _, X4, rfl, rfl, rfl, (fun h => by cases h), ⟨rfl, q4.trans hh2⟩, fun fs hl => c5.trans (X4.ireturnOut hexec hret (by rcases hc with rfl | rfl <;> rfl) (Or.inr (Or.inr (Or.inl rfl))) (hb hbytes d14) hl)⟩
end Cdr
namespace Len
def yN : MethodName := ⟨"java/lang/String", "length", "()I"⟩
abbrev yB : ByteArray := jdk_42_method_54_code
theorem d0 : decode yB 0 = .ok (.aload_n 0, 1) := by decide +kernel
theorem d1 : decode yB 1 = .ok (.getfield 9, 3) := by decide +kernel
theorem d4 : decode yB 4 = .ok (.arraylength, 1) := by decide +kernel
theorem d5 : decode yB 5 = .ok (.aload_n 0, 1) := by decide +kernel
theorem d6 : decode yB 6 = .ok (.invokevirtual 335, 3) := by decide +kernel
theorem d9 : decode yB 9 = .ok (.ishr, 1) := by decide +kernel
theorem d10 : decode yB 10 = .ok (.ireturn, 1) := by decide +kernel
def site : List Cond := [.fieldLink "java/lang/String" 9 "java/lang/String" "value" "[B", Cdr.tab] ++ virtW "java/lang/String" 335 "java/lang/String" Cdr.yN Cdr.yN
def tab : Cond := tabOf yN yB 1 (some .int) site
def P (x t : Addr) (V : Cell) (cd : Int32) (n : Nat) (f : Nat → Int32) (z : Int32) (args : Array Value) (s : State) : Prop := args = #[.ref x] ∧ Txt x t V cd n f s ∧ StaticIs s "java/lang/String" "COMPACT_STRINGS" "Z" (.int z) ∧ ¬ z = 0
def E (n : Nat) (r : Option Value) (s u : State) : Prop := XT.PureE (some (.int (Int32.ofNat n))) r s u
/-- length() of a String of n chars, in either coding -/
theorem law (l : Launch) (x t : Addr) (V : Cell) (cd : Int32) (n : Nat) (f : Nat → Int32) (z : Int32) : Law l yN 1 0 1 13 yB 1 (some .int) site (P x t V cd n f z) (E n) [] 0 0 := by
  refine Law.of_walk (plainFor_of_name (by decide +kernel)) (by decide +kernel) (by decide +kernel) (by decide) (fun _ _ h => by rw [h.1]; rfl) (fun _ U U' hal hh h => ⟨h.1, h.2.1.mv hal hh, h.2.2.1.there hal hh, h.2.2.2⟩) (fun r U U' V V' h1 hal h2 h => XT.PureE.mv r U U' V V' h1 hal h2 h) ?_
  intro p e s m args below meth c s₁ X0 hexec hbytes hml hret hlk hnm hown hh0 W hP
  obtain ⟨rfl, hx, s1, hz⟩ := hP
  have v31 := hx.2.2.2.1.2.2.2
  have c1 : Steps p.tables e below (s₁.setTop (entryFrame m #[.ref x] 1)) (s₁.setTop (mkF m 1 #[.val (.ref x)] [.ref x])) := Steps.trans (entry rfl) (by
    show Steps p.tables e below (s₁.setTop (mkF m 0 #[.val (.ref x)] [])) _
    refine XS.aloadN X0.here hexec rfl (hb hbytes d0) rfl rfl ?_
    exact Steps.refl _)
  obtain ⟨T2, X2, q2, st2⟩ := X0.hget hexec hown (wk W (.fieldLink "java/lang/String" 9 "java/lang/String" "value" "[B")) (hx.mv X0.warmed.alike hh0).2.1 (g := (mkF m 1 #[.val (.ref x)] [.ref x])) rfl (rest := []) rfl (hb hbytes d1)
  have hh2 := q2.trans hh0
  have hx2 := hx.mv X2.warmed.alike hh2
  have c3 : Steps p.tables e below (s₁.setTop (entryFrame m #[.ref x] 1)) (T2.setTop (mkF m 6 #[.val (.ref x)] [.ref x, .int (Int32.ofNat V.slots.size)])) := (c1.trans (st2 _ (Steps.refl _))).trans (by
    refine X2.alen hexec hx2.2.2.2.1 rfl rfl (hb hbytes d4) ?_
    refine XS.aloadN X2.here hexec rfl (hb hbytes d5) rfl rfl ?_
    exact Steps.refl _)
  obtain ⟨v4, T4, X4, E4, g4⟩ := X2.callV hexec (Cdr.law l x cd z) hown (wks W (virtW "java/lang/String" 335 "java/lang/String" Cdr.yN Cdr.yN)) rfl (by decide) (wk W Cdr.tab) (W := 1) (Nat.le_of_ble_eq_true rfl) (Nat.le_of_ble_eq_true rfl) (Nat.le_refl _) (Nat.le_refl _) (hx2.1.fc X2.warmed.alike) hx2.1.is (g := (mkF m 6 #[.val (.ref x)] [.ref x, .int (Int32.ofNat V.slots.size)])) rfl (by rw [hml]; rfl) c3 (argsL := []) (rest := [.int (Int32.ofNat V.slots.size)]) rfl rfl (by show 2 * 0 + (1 + 0) ≤ _; decide) (hb hbytes d6) (⟨rfl, hx2.2.2.1, hx.2.2.2.2.1.cd, s1.there X2.warmed.alike hh2, hz⟩)
  obtain ⟨rfl, q4⟩ := E4
  have c5 : Steps p.tables e below (s₁.setTop (entryFrame m #[.ref x] 1)) (T4.setTop (mkF m 10 #[.val (.ref x)] [.int (Int32.ofNat V.slots.size >>> (cd &&& 31))])) := Steps.trans g4 (by
    refine ishr X4.here hexec rfl (hb hbytes d9) rfl ?_
    exact Steps.refl _)
  rw [hx.2.2.2.2.1.len v31] at c5
  exact ⟨T4, some (.int (Int32.ofNat n)), _, _, _, X4, rfl, rfl, rfl, (fun h => by cases h), ⟨rfl, q4.trans hh2⟩, fun fs hl => c5.trans (X4.ireturnOut hexec hret rfl (Or.inl rfl) (hb hbytes d10) hl)⟩
theorem pays {l : Launch} {R : Room} {p : Program} {e : Env} {below : List Frame} {s : State} {sargs : Array Value} {len W : Nat} (x t : Addr) (V : Cell) (cd : Int32) (n : Nat) (f : Nat → Int32) (z : Int32) (htab : tab.before sargs s = true) (hfr : 2 ≤ R.frames) (hlo : W + 25 ≤ R.locals) :
    Back l R p e below s sargs yN len W (fun A₁ a₁ => A₁.cells + 0 ≤ R.cells ∧ A₁.slots + 0 ≤ R.slots ∧ P x t V cd n f z a₁ A₁.U) (fun A₁ _ v₁ B₁ => E n v₁ A₁.U B₁.U ∧ B₁.locs = A₁.locs ++ [] ∧ B₁.cells = A₁.cells + 0 ∧ B₁.slots = A₁.slots + 0) :=
  (law l x t V cd n f z).pays htab hfr (by omega)
end Len
namespace IsL
def yN : MethodName := ⟨"java/lang/String", "isLatin1", "()Z"⟩
abbrev yB : ByteArray := jdk_42_method_154_code
theorem d0 : decode yB 0 = .ok (.getstatic 38, 3) := by decide +kernel
theorem d3 : decode yB 3 = .ok (.ifCond (.eq) 14, 3) := by decide +kernel
theorem d6 : decode yB 6 = .ok (.aload_n 0, 1) := by decide +kernel
theorem d7 : decode yB 7 = .ok (.getfield 15, 3) := by decide +kernel
theorem d10 : decode yB 10 = .ok (.ifCond (.ne) 7, 3) := by decide +kernel
theorem d13 : decode yB 13 = .ok (.iconst 1, 1) := by decide +kernel
theorem d14 : decode yB 14 = .ok (.goto 4, 3) := by decide +kernel
theorem d17 : decode yB 17 = .ok (.iconst 0, 1) := by decide +kernel
theorem d18 : decode yB 18 = .ok (.ireturn, 1) := by decide +kernel
def site : List Cond := [.fieldLink "java/lang/String" 38 "java/lang/String" "COMPACT_STRINGS" "Z", .fieldLink "java/lang/String" 15 "java/lang/String" "coder" "B"]
def tab : Cond := tabOf yN yB 1 (some .boolean) site
def P (x : Addr) (cd z : Int32) (args : Array Value) (s : State) : Prop := args = #[.ref x] ∧ Has x "java/lang/String" "coder" "B" (.int cd) s ∧ (cd = 0 ∨ cd = 1) ∧ StaticIs s "java/lang/String" "COMPACT_STRINGS" "Z" (.int z) ∧ ¬ z = 0
def E (cd : Int32) (r : Option Value) (s u : State) : Prop := XT.PureE (some (.int (1 - cd))) r s u
theorem law (l : Launch) (x : Addr) (cd z : Int32) : Law l yN 1 0 0 0 yB 1 (some .boolean) site (P x cd z) (E cd) [] 0 0 := by
  refine Law.of_walk (plainFor_of_name (by decide +kernel)) (by decide +kernel) (by decide +kernel) (by decide) (fun _ _ h => by rw [h.1]; rfl) (fun _ U U' hal hh h => ⟨h.1, h.2.1.mv hal hh, h.2.2.1, h.2.2.2.1.there hal hh, h.2.2.2.2⟩) (fun r U U' V V' h1 hal h2 h => XT.PureE.mv r U U' V V' h1 hal h2 h) ?_
  intro p e s m args below meth c s₁ X0 hexec hbytes hml hret hlk hnm hown hh0 W hP
  obtain ⟨rfl, hx, hc, s1, hz⟩ := hP
  have c1 : Steps p.tables e below (s₁.setTop (entryFrame m #[.ref x] 1)) (s₁.setTop (mkF m 0 #[.val (.ref x)] [])) := entry rfl
  obtain ⟨T2, X2, q2, st2⟩ := X0.sget hexec hown (wk W (.fieldLink "java/lang/String" 38 "java/lang/String" "COMPACT_STRINGS" "Z")) s1 (fun _ _ h => by rw [hh0]; exact h) (g := (mkF m 0 #[.val (.ref x)] [])) rfl (hb hbytes d0)
  have hh2 := q2.trans hh0
  have c3 : Steps p.tables e below (s₁.setTop (entryFrame m #[.ref x] 1)) (T2.setTop (mkF m 7 #[.val (.ref x)] [.ref x])) := (c1.trans (st2 _ (Steps.refl _))).trans (by
    refine XS.ifNo X2.here hexec rfl (hb hbytes d3) rfl (i0_eq_f hz) ?_
    refine XS.aloadN X2.here hexec rfl (hb hbytes d6) rfl rfl ?_
    exact Steps.refl _)
  obtain ⟨T4, X4, q4, st4⟩ := X2.hget hexec hown (wk W (.fieldLink "java/lang/String" 15 "java/lang/String" "coder" "B")) (hx.mv X2.warmed.alike hh2) (g := (mkF m 7 #[.val (.ref x)] [.ref x])) rfl (rest := []) rfl (hb hbytes d7)
  have c5 : Steps p.tables e below (s₁.setTop (entryFrame m #[.ref x] 1)) (T4.setTop (mkF m 10 #[.val (.ref x)] [.int cd])) := c3.trans (st4 _ (Steps.refl _))
  have c6 : Steps p.tables e below (s₁.setTop (entryFrame m #[.ref x] 1)) (T4.setTop (mkF m 18 #[.val (.ref x)] [.int (1 - cd)])) := by
    rcases hc with rfl | rfl
    · exact c5.trans (by
        refine XS.ifNo X4.here hexec rfl (hb hbytes d10) rfl (i0_ne_f rfl) ?_
        refine iconstV X4.here hexec rfl 1 (hb hbytes d13) (by decide) ?_
        refine XS.goto X4.here hexec rfl (pc0 := 14) rfl (hb hbytes d14) (by decide) rfl ?_
        exact Steps.refl _)
    · exact c5.trans (by
        refine XS.ifYes X4.here hexec rfl (pc0 := 10) rfl (hb hbytes d10) rfl (i0_ne_t (by decide)) (by decide) rfl ?_
        refine iconstV X4.here hexec rfl 0 (hb hbytes d17) (by decide) ?_
        exact Steps.refl _)
  exact ⟨T4, some (.int (1 - cd)), _, _, _, X4, rfl, rfl, rfl, (fun h => by cases h), ⟨rfl, q4.trans hh2⟩, fun fs hl => c6.trans (X4.ireturnOut hexec hret (by rcases hc with rfl | rfl <;> rfl) (Or.inr (Or.inl rfl)) (hb hbytes d18) hl)⟩
end IsL
namespace LChA
def yN : MethodName := ⟨"java/lang/StringLatin1", "charAt", "([BI)C"⟩
abbrev yB : ByteArray := jdk_43_method_2_code
theorem d0 : decode yB 0 = .ok (.iload_n 1, 1) := by decide +kernel
theorem d1 : decode yB 1 = .ok (.aload_n 0, 1) := by decide +kernel
theorem d2 : decode yB 2 = .ok (.arraylength, 1) := by decide +kernel
theorem d3 : decode yB 3 = .ok (.invokestatic 9, 3) := by decide +kernel
theorem d6 : decode yB 6 = .ok (.aload_n 0, 1) := by decide +kernel
theorem d7 : decode yB 7 = .ok (.iload_n 1, 1) := by decide +kernel
theorem d8 : decode yB 8 = .ok (.baload, 1) := by decide +kernel
theorem d9 : decode yB 9 = .ok (.sipush 255, 3) := by decide +kernel
theorem d12 : decode yB 12 = .ok (.iand, 1) := by decide +kernel
theorem d13 : decode yB 13 = .ok (.i2c, 1) := by decide +kernel
theorem d14 : decode yB 14 = .ok (.ireturn, 1) := by decide +kernel
def site : List Cond := [JO.Str_checkIndex.tab] ++ staticW "java/lang/StringLatin1" 9 JO.Str_checkIndex.yN
def tab : Cond := tabOf yN yB 2 (some .char) site
def P (t : Addr) (V : Cell) (i : Nat) (u : Int32) (fm : Value) (args : Array Value) (s : State) : Prop := args = #[.ref t, .int (Int32.ofNat i)] ∧ XT.Arr .byte t V s ∧ V.slots[i]? = some (.int u) ∧ (StaticIs s "jdk/internal/util/Preconditions" "SIOOBE_FORMATTER" "Ljava/util/function/BiFunction;" fm ∧ fm.isRef = true)
def E (u : Int32) (r : Option Value) (s w : State) : Prop := XT.PureE (some (.int (chr8 u))) r s w
theorem law (l : Launch) (t : Addr) (V : Cell) (i : Nat) (u : Int32) (fm : Value) : Law l yN 2 2 2 27 yB 2 (some .char) site (P t V i u fm) (E u) [] 0 0 := by
  refine Law.of_walk (plainFor_of_name (by decide +kernel)) (by decide +kernel) (by decide +kernel) (by decide) (fun _ _ h => by rw [h.1]; rfl) (fun _ U U' hal hh h => ⟨h.1, h.2.1.mv hal hh, h.2.2.1, h.2.2.2.1.there hal hh, h.2.2.2.2⟩) (fun r U U' V V' h1 hal h2 h => XT.PureE.mv r U U' V V' h1 hal h2 h) ?_
  intro p e s m args below meth c s₁ X0 hexec hbytes hml hret hlk hnm hown hh0 W hP
  obtain ⟨rfl, hV, hu, s1, rf⟩ := hP
  have v31 := hV.2.2.2
  have hi : i < V.slots.size := (Array.getElem?_eq_some_iff.mp hu).1
  have c1 : Steps p.tables e below (s₁.setTop (entryFrame m #[.ref t, .int (Int32.ofNat i)] 2)) (s₁.setTop (mkF m 0 #[.val (.ref t), .val (.int (Int32.ofNat i))] [])) := entry rfl
  have c2 : Steps p.tables e below (s₁.setTop (entryFrame m #[.ref t, .int (Int32.ofNat i)] 2)) (s₁.setTop (mkF m 3 #[.val (.ref t), .val (.int (Int32.ofNat i))] [.int (Int32.ofNat V.slots.size), .int (Int32.ofNat i)])) := c1.trans (by
    refine XS.iloadN X0.here hexec rfl (hb hbytes d0) rfl ?_
    refine XS.aloadN X0.here hexec rfl (hb hbytes d1) rfl rfl ?_
    refine X0.alen hexec (hV.mv X0.warmed.alike hh0) rfl rfl (hb hbytes d2) ?_
    exact Steps.refl _)
  obtain ⟨v3, T3, X3, E3, g3⟩ := X0.callS hexec (JO.Str_checkIndex.law l (Int32.ofNat i) (Int32.ofNat V.slots.size) fm) hown (wks W (staticW "java/lang/StringLatin1" 9 JO.Str_checkIndex.yN)) (wk W JO.Str_checkIndex.tab) (W := 0) (Nat.le_of_ble_eq_true rfl) (Nat.le_of_ble_eq_true rfl) (Nat.le_refl _) (Nat.le_refl _) (g := (mkF m 3 #[.val (.ref t), .val (.int (Int32.ofNat i))] [.int (Int32.ofNat V.slots.size), .int (Int32.ofNat i)])) rfl (by rw [hml]; rfl) c2 (argsL := [.int (Int32.ofNat i), .int (Int32.ofNat V.slots.size)]) (rest := []) rfl rfl (by show 2 * 0 + 0 ≤ _; decide) (hb hbytes d3) (⟨rfl, rf, s1.there X0.warmed.alike hh0, Int32.ofNat_not_neg (by omega), lt32 v31 hi⟩)
  obtain ⟨rfl, q3⟩ := E3
  have hh3 := q3.trans hh0
  have c4 : Steps p.tables e below (s₁.setTop (entryFrame m #[.ref t, .int (Int32.ofNat i)] 2)) (T3.setTop (mkF m 14 #[.val (.ref t), .val (.int (Int32.ofNat i))] [.int (chr8 u)])) := Steps.trans g3 (by
    refine XS.aloadN X3.here hexec rfl (hb hbytes d6) rfl rfl ?_
    refine XS.iloadN X3.here hexec rfl (hb hbytes d7) rfl ?_
    refine X3.aget hexec (hV.mv X3.warmed.alike hh3) rfl hu rfl rfl (hb hbytes d8) ?_
    refine sipushV X3.here hexec rfl 255 (hb hbytes d9) (by decide) ?_
    refine XS.iand X3.here hexec rfl (hb hbytes d12) rfl ?_
    refine i2c X3.here hexec rfl (hb hbytes d13) rfl ?_
    exact Steps.refl _)
  exact ⟨T3, some (.int (chr8 u)), _, _, _, X3, rfl, rfl, rfl, (fun h => by cases h), ⟨rfl, hh3⟩, fun fs hl => c4.trans (X3.ireturnOut hexec hret (narrow_c _) (Or.inr (Or.inr (Or.inr (Or.inl rfl)))) (hb hbytes d14) hl)⟩
end LChA
end StrChars
namespace StrChars.Road
open Jvm Sem ClassFile Op Lib Jvm.Stand Jvm.Free Jvm.Free.XT
open Jvm.Lib.Cold (StaticIs)
theorem consq {a : Array Value} {s : State} {c : Jvm.Cond} {L : List Jvm.Cond} (h0 : c.before a s = true) (h : ∀ w ∈ L, w.before a s = true) : ∀ w ∈ c :: L, w.before a s = true := fun w hw => (List.mem_cons.mp hw).elim (fun e => e ▸ h0) (h w)
/-- the words of String.length(), either coding -/
abbrev wordsLen : List Jvm.Cond := [.code Len.yN Len.yB 1 (some .int), .initialized ST, .fieldLink ST 9 ST "value" "[B", .fieldLink ST 38 ST "COMPACT_STRINGS" "Z", .fieldLink ST 15 ST "coder" "B", .code Cdr.yN Cdr.yB 1 (some .byte), .methodLink ST 335 Cdr.yN, .declares Cdr.yN, .selects ST Cdr.yN Cdr.yN, .instanceMethod Cdr.yN]
theorem tabLen_of {a : Array Value} {s : State} (h : ∀ w ∈ wordsLen, w.before a s = true) : Len.tab.before a s = true := by
  have hc : Cdr.tab.before a s = true := unparts (wk h (.code Cdr.yN Cdr.yB 1 (some .byte))) (wks h (.initialized Cdr.yN.cls :: Cdr.site))
  have q := consq hc h
  exact unparts (wk q (.code Len.yN Len.yB 1 (some .int))) (wks q (.initialized Len.yN.cls :: Len.site))
theorem movedLen {Z s : State} {a0 args : Array Value} (hZ : Z.Warmed39 s.vm) (hw : ∀ d ∈ wordsLen, d.before a0 Z = true) : ∀ d ∈ wordsLen, d.before args s = true := fun d hd => by
  have q := hw d hd
  have t : ∀ d ∈ wordsLen, d = .arrayClass .byte ∨ (d.onTables && d.keepsFace) = true := by decide +kernel
  rcases t d hd with rfl | t
  · exact RoadKit.mvA hZ q
  · exact RoadKit.mv hZ q t
/-- the bytes of the chars cs, low before high -/
def wideBytes : List Int32 → List Value
  | [] => []
  | c :: cs => .int (lo8 c) :: .int (hi8 c) :: wideBytes cs
theorem wide_lo (d : Value) : ∀ (cs : List Int32) (j : Nat), j < cs.length → (wideBytes cs).getD (2 * j) d = .int (lo8 (cs.getD j 0))
  | [], j, h => absurd h (Nat.not_lt_zero j)
  | c :: cs, 0, _ => rfl
  | c :: cs, j + 1, h => by
    have q := wide_lo d cs j (by simpa using h)
    rw [show 2 * (j + 1) = 2 * j + 1 + 1 from by omega]
    simpa [wideBytes] using q
theorem wide_hi (d : Value) : ∀ (cs : List Int32) (j : Nat), j < cs.length → (wideBytes cs).getD (2 * j + 1) d = .int (hi8 (cs.getD j 0))
  | [], j, h => absurd h (Nat.not_lt_zero j)
  | c :: cs, 0, _ => rfl
  | c :: cs, j + 1, h => by
    have q := wide_hi d cs j (by simpa using h)
    rw [show 2 * (j + 1) + 1 = 2 * j + 1 + 1 + 1 from by omega]
    simpa [wideBytes] using q
theorem low_at (d : Value) (cs : List Int32) (j : Nat) (h : j < cs.length) : (cs.map fun c => Value.int (lo8 c)).getD j d = .int (lo8 (cs.getD j 0)) := by
  simp [List.getD_eq_getElem?_getD, h]
/-- an array of N2 bytes vs codes the chars cs by the coder cd -/
def CodA (cs : List Int32) (cd N2 : Int32) (vs : List Value) : Prop := (cd = 0 ∧ N2 = Int32.ofNat cs.length ∧ vs = (cs.map fun c => Value.int (lo8 c)) ∧ ∀ c ∈ cs, ¬ 255 < c) ∨ (cd = 1 ∧ N2 = Int32.ofNat (2 * cs.length) ∧ vs = wideBytes cs ∧ ∃ c ∈ cs, 255 < c)
theorem CodA.cod {cs : List Int32} {cd N2 : Int32} {vs : List Value} {V : Cell} (h : CodA cs cd N2 vs) (hn : 2 * cs.length < 2 ^ 31) (hs : V.slots.size = N2.toNatClampNeg) (hv : RoadKit.Has V vs (.int 0)) : Cod cd cs.length (fun j => cs.getD j 0) V := by
  rcases h with ⟨rfl, rfl, rfl, h⟩ | ⟨rfl, rfl, rfl, c, hc, hw⟩
  · rw [n32 (by omega)] at hs
    exact Or.inl ⟨rfl, hs, fun j hj => ⟨by rw [hv j (by omega), low_at _ _ _ hj], by
      have e : cs.getD j 0 = cs[j] := by simp [List.getD_eq_getElem?_getD, hj]
      show ¬ 255 < cs.getD j 0
      rw [e]; exact h _ (List.getElem_mem _)⟩⟩
  · rw [n32 (by omega)] at hs
    obtain ⟨j, hj, rfl⟩ := List.getElem_of_mem hc
    exact Or.inr ⟨rfl, hs, fun j hj => ⟨by rw [hv _ (by omega), wide_lo _ _ _ hj], by rw [hv _ (by omega), wide_hi _ _ _ hj]⟩, j, hj, by
      have e : cs.getD j 0 = cs[j] := by simp [List.getD_eq_getElem?_getD, hj]
      show 255 < cs.getD j 0
      rw [e]; exact hw⟩
/-- an object of exactly java/lang/String, its two fields found: as the laws ask it -/
theorem strObj {Z U : State} {a0 : Array Value} {kI : Nat} (wi : (Jvm.Cond.instantiable ST kI).before a0 Z = true) (al : Z.vm.Alike U.vm) {x : Addr} {v0 c0 : Value} (E : RoadKit.Exa Z U.heap x ST) (V : RoadKit.Fld Z U.heap x ST "value" "[B" v0) (C : RoadKit.Fld Z U.heap x ST "coder" "B" c0) :
    ∃ (D : Cell) (fV fC : Field), Blank ST x D U ∧ Found ST "value" "[B" fV U ∧ Found ST "coder" "B" fC U ∧ D.slots[fV.slot]? = some v0 ∧ D.slots[fC.slot]? = some c0 ∧ RoadKit.slotOf Z ST "value" "[B" = fV.slot ∧ RoadKit.slotOf Z ST "coder" "B" = fC.slot := by
  obtain ⟨D, cfV, kV, iV, fV, hD, gV, stV, knV, obV, asV, slV⟩ := V
  obtain ⟨D', cfC, kC, iC, fC, hD', gC, stC, -, -, asC, slC⟩ := C
  cases hD.symm.trans hD'
  obtain ⟨D2, kD, e1, e2, e3, e4, e5⟩ := E
  cases hD.symm.trans e1
  obtain ⟨c2, k2, i1, i2, i3, -⟩ := Cond.instantiable_spec wi
  cases e2.symm.trans i1
  cases e3.symm.trans i2
  obtain ⟨kU, u1, u2⟩ := al.2.2 _ _ e3
  exact ⟨D, fV, fC, ⟨hD, ⟨knV, fun q hq => by rw [hq] at obV; cases obV⟩, by rw [al.findClass]; exact e2, kU, u1, by rw [u2]; exact i3, by rw [u2]; exact e5 i3⟩, ⟨SBG.found_only al ⟨cfV, kV, iV, gV⟩, stV⟩, ⟨SBG.found_only al ⟨cfC, kC, iC, gC⟩, stC⟩, slV, slC, by simp [RoadKit.slotOf, gV], by simp [RoadKit.slotOf, gC]⟩
theorem sta_is {Z U : State} (al : Z.vm.Alike U.vm) {C n d : String} {v : Value} (S : RoadKit.Sta Z U.heap C n d v) : StaticIs U C n d v := by
  obtain ⟨cfS, iS, kS, fS, st, cS, t1, t2, t3, t4, t5, t6, t7⟩ := S
  exact StaticIs.there (s := { Z with heap := U.heap }) ⟨cfS, iS, kS, fS, st, cS, t1, t2, t3, t4, t5, (fun q => by rw [q] at t6; cases t6), t7⟩ al rfl
/-- **length() OF SUCH A STRING** -/
theorem lenW {p : Program} {l : Launch} {e : Env} {R : Room} {s : State} {args : Array Value} {below : List Frame} {len W : Nat} {Z : State} {a0 : Array Value} {h : Heap} (hZ : Z.Warmed39 s.vm) (hw : ∀ d ∈ wordsLen, d.before a0 Z = true) {kI : Nat} (wi : (Jvm.Cond.instantiable ST kI).before a0 Z = true)
    {x t : Addr} {kb : ClassId} {cs : List Int32} {cd N2 z : Int32} {vs : List Value} (E : RoadKit.Exa Z h x ST) (V : RoadKit.Fld Z h x ST "value" "[B" (.ref t)) (C : RoadKit.Fld Z h x ST "coder" "B" (.int cd)) (K : RoadKit.Arv Z h t kb .byte N2 vs (.int 0)) (hc : CodA cs cd N2 vs) (hb : ∀ c ∈ cs, ¬ c < 0 ∧ ¬ (65535 : Int32) < c)
    (S : RoadKit.Sta Z h ST "COMPACT_STRINGS" "Z" (.int z)) (hz : ¬ z = 0) (l2 : cs.length ≤ 4000) (hfr : 2 ≤ R.frames) (hlo : W + 25 ≤ R.locals) :
    Back l R p e below s args (⟨"java/lang/String", "length", "()I"⟩ : MethodName) len W (fun P a => a = #[.ref x] ∧ P.U.heap = h ∧ P.cells + 0 ≤ R.cells ∧ P.slots + 0 ≤ R.slots)
      (fun P _ v B => ∃ L, (v = some (.int (Int32.ofNat cs.length)) ∧ L = [] ∧ B.U.heap = h) ∧ B.locs = P.locs ++ L ∧ B.cells = P.cells + 0 ∧ B.slots = P.slots + 0) := by
  obtain ⟨A, K1, K2, K3, K4, K5, K6⟩ := K
  have hcod := hc.cod (by omega) K3 K5
  intro m meth c P g ig mk a X hg hsize hdg hW hn hp'
  obtain ⟨rfl, rfl, r1, r2⟩ := hp'
  have al : Z.vm.Alike P.U.vm := hZ.alike.trans X.warmed.alike
  obtain ⟨D, fV, fC, hB, F1, F2, g1, g2, -, -⟩ := strObj wi al E V C
  have hx : Txt x t A cd cs.length (fun j => cs.getD j 0) P.U := ⟨⟨_, hB.2.2.1, D, hB.1, rfl, by cases q : D.vm <;> first | rfl | exact absurd q (hB.2.1.2 _)⟩, Has.of hB F1 g1, Has.of hB F2 g2, ⟨K1.1, State.isArrayOf_alike al K1.2.1, K1.2.2, by rcases hcod with ⟨-, q, -⟩ | ⟨-, q, -⟩ <;> omega⟩, hcod, fun j hj => by
    have e : cs.getD j 0 = cs[j] := by simp [List.getD_eq_getElem?_getD, hj]
    show ¬ cs.getD j 0 < 0 ∧ ¬ 65535 < cs.getD j 0
    rw [e]; exact hb _ (List.getElem_mem _)⟩
  obtain ⟨v, B, X', ⟨⟨hv, hh⟩, hl, hk, hs⟩, st⟩ := Len.pays x t A cd cs.length (fun j => cs.getD j 0) z (tabLen_of (movedLen hZ hw)) hfr hlo m meth c P g ig mk _ X hg hsize hdg hW hn ⟨r1, r2, rfl, hx, sta_is al S, hz⟩
  exact ⟨v, B, X', ⟨[], ⟨hv, rfl, hh⟩, hl, hk, hs⟩, st⟩
end StrChars.Road
namespace StrChars
open Jvm Sem ClassFile Op Lib Jvm.Stand Jvm.Free.XT Jvm.Free.ALB Jvm.Free.JM Jvm.Free
open Jvm.Lib.Cold (StaticIs)
/-- what place i of a byte[]'s cell holds -/
def yv (A : Cell) (i : Nat) : Int32 := match A.slots[i]? with | some (.int x) => x | _ => 0
theorem yv_get {a : Addr} {A : Cell} {U : State} (h : XT.Arr .byte a A U) (ht : Typed .byte A) {i : Nat} (hi : i < A.slots.size) : A.slots[i]? = some (.int (yv A i)) := by
  have e := Array.getElem?_eq_getElem hi
  have f := ht i _ e
  unfold yv; rw [e]
  generalize A.slots[i] = v at f
  cases v <;> simp [fits] at f ⊢
/-- the two arrays are equal, place for place -/
def EqC (A B : Cell) : Prop := A.slots.size = B.slots.size ∧ ∀ i, i < A.slots.size → yv A i = yv B i
/-- a boolean that says whether p -/
def Says01 (q : Prop) (r : Option Value) (s u : State) : Prop := ∃ v : Int32, r = some (.int v) ∧ u.heap = s.heap ∧ ((v = 1 ∧ q) ∨ (v = 0 ∧ ¬ q))
theorem Says01.mv {q : Prop} : ∀ r (U U' V V' : State), U'.heap = U.heap → V.vm.Alike V'.vm → V'.heap = V.heap → Says01 q r U V → Says01 q r U' V' :=
  fun r U U' V V' h1 _ h2 ⟨v, a, b, c⟩ => ⟨v, a, by rw [h1, h2]; exact b, c⟩
namespace LEq
def yN : MethodName := ⟨"java/lang/StringLatin1", "equals", "([B[B)Z"⟩
abbrev yB : ByteArray := jdk_43_method_13_code
theorem d0 : decode yB 0 = .ok (.aload_n 0, 1) := by decide +kernel
theorem d1 : decode yB 1 = .ok (.arraylength, 1) := by decide +kernel
theorem d2 : decode yB 2 = .ok (.aload_n 1, 1) := by decide +kernel
theorem d3 : decode yB 3 = .ok (.arraylength, 1) := by decide +kernel
theorem d4 : decode yB 4 = .ok (.if_icmp (.ne) 30, 3) := by decide +kernel
theorem d7 : decode yB 7 = .ok (.iconst 0, 1) := by decide +kernel
theorem d8 : decode yB 8 = .ok (.istore_n 2, 1) := by decide +kernel
theorem d9 : decode yB 9 = .ok (.iload_n 2, 1) := by decide +kernel
theorem d10 : decode yB 10 = .ok (.aload_n 0, 1) := by decide +kernel
theorem d11 : decode yB 11 = .ok (.arraylength, 1) := by decide +kernel
theorem d12 : decode yB 12 = .ok (.if_icmp (.ge) 20, 3) := by decide +kernel
theorem d15 : decode yB 15 = .ok (.aload_n 0, 1) := by decide +kernel
theorem d16 : decode yB 16 = .ok (.iload_n 2, 1) := by decide +kernel
theorem d17 : decode yB 17 = .ok (.baload, 1) := by decide +kernel
theorem d18 : decode yB 18 = .ok (.aload_n 1, 1) := by decide +kernel
theorem d19 : decode yB 19 = .ok (.iload_n 2, 1) := by decide +kernel
theorem d20 : decode yB 20 = .ok (.baload, 1) := by decide +kernel
theorem d21 : decode yB 21 = .ok (.if_icmp (.eq) 5, 3) := by decide +kernel
theorem d24 : decode yB 24 = .ok (.iconst 0, 1) := by decide +kernel
theorem d25 : decode yB 25 = .ok (.ireturn, 1) := by decide +kernel
theorem d26 : decode yB 26 = .ok (.iinc 2 1, 3) := by decide +kernel
theorem d29 : decode yB 29 = .ok (.goto (-20), 3) := by decide +kernel
theorem d32 : decode yB 32 = .ok (.iconst 1, 1) := by decide +kernel
theorem d33 : decode yB 33 = .ok (.ireturn, 1) := by decide +kernel
theorem d34 : decode yB 34 = .ok (.iconst 0, 1) := by decide +kernel
theorem d35 : decode yB 35 = .ok (.ireturn, 1) := by decide +kernel
def site : List Cond := []
def tab : Cond := tabOf yN yB 3 (some .boolean) site
def P (a : Addr) (A : Cell) (b : Addr) (B : Cell) (args : Array Value) (s : State) : Prop := args = #[.ref a, .ref b] ∧ XT.Arr .byte a A s ∧ Typed .byte A ∧ XT.Arr .byte b B s ∧ Typed .byte B
/-- whether two byte[] are equal, place for place -/
theorem law (l : Launch) (a : Addr) (A : Cell) (b : Addr) (B : Cell) : Law l yN 2 2 0 0 yB 3 (some .boolean) site (P a A b B) (Says01 (EqC A B)) [] 0 0 := by
  refine Law.of_walk (plainFor_of_name (by decide +kernel)) (by decide +kernel) (by decide +kernel) (by decide) (fun _ _ h => by rw [h.1]; rfl) (fun _ U U' hal hh h => ⟨h.1, h.2.1.mv hal hh, h.2.2.1, h.2.2.2.1.mv hal hh, h.2.2.2.2⟩) (fun r U U' V V' h1 hal h2 h => Says01.mv r U U' V V' h1 hal h2 h) ?_
  intro p e s m args below meth c s₁ X0 hexec hbytes hml hret hlk hnm hown hh0 W hP
  obtain ⟨rfl, hA, tA, hB, tB⟩ := hP
  have a31 := hA.2.2.2
  have b31 := hB.2.2.2
  have hA0 := hA.mv X0.warmed.alike hh0
  have hB0 := hB.mv X0.warmed.alike hh0
  have c1 : Steps p.tables e below (s₁.setTop (entryFrame m #[.ref a, .ref b] 3)) (s₁.setTop (mkF m 0 #[.val (.ref a), .val (.ref b), .unset] [])) := entry rfl
  have c2 : Steps p.tables e below (s₁.setTop (entryFrame m #[.ref a, .ref b] 3)) (s₁.setTop (mkF m 4 #[.val (.ref a), .val (.ref b), .unset] [.int (Int32.ofNat B.slots.size), .int (Int32.ofNat A.slots.size)])) := c1.trans (by
    refine XS.aloadN X0.here hexec rfl (hb hbytes d0) rfl rfl ?_
    refine X0.alen hexec hA0 rfl rfl (hb hbytes d1) ?_
    refine XS.aloadN X0.here hexec rfl (hb hbytes d2) rfl rfl ?_
    refine X0.alen hexec hB0 rfl rfl (hb hbytes d3) ?_
    exact Steps.refl _)
  by_cases hs : A.slots.size = B.slots.size
  · have c3 : Steps p.tables e below (s₁.setTop (entryFrame m #[.ref a, .ref b] 3)) (s₁.setTop (mkF m 9 #[.val (.ref a), .val (.ref b), .val (.int 0)] [])) := c2.trans (by
      refine XS.icmpNo X0.here hexec rfl (hb hbytes d4) rfl (ii_ne_f (by rw [hs])) ?_
      refine iconstV X0.here hexec rfl 0 (hb hbytes d7) (by decide) ?_
      refine XS.istoreN X0.here hexec rfl (hb hbytes d8) rfl rfl ?_
      exact Steps.refl _)
    have loop : ∀ (r i : Nat), i + r = A.slots.size → (∀ j, j < i → yv A j = yv B j) → Steps p.tables e below (s₁.setTop (entryFrame m #[.ref a, .ref b] 3)) (s₁.setTop (mkF m 9 #[.val (.ref a), .val (.ref b), .val (.int (Int32.ofNat i))] [])) → ∃ (pc : Nat) (Ls : Array Slot) (v : Int32), (pc = 25 ∨ pc = 33) ∧ ((v = 1 ∧ EqC A B) ∨ (v = 0 ∧ ¬ EqC A B)) ∧ Steps p.tables e below (s₁.setTop (entryFrame m #[.ref a, .ref b] 3)) (s₁.setTop (mkF m pc Ls [.int v])) := by
      intro r
      induction r with
      | zero =>
        intro i hi he cl
        exact ⟨33, _, 1, Or.inr rfl, Or.inl ⟨rfl, hs, fun j hj => he j (by omega)⟩, cl.trans (by
          refine XS.iloadN X0.here hexec rfl (hb hbytes d9) rfl ?_
          refine XS.aloadN X0.here hexec rfl (hb hbytes d10) rfl rfl ?_
          refine X0.alen hexec hA0 rfl rfl (hb hbytes d11) ?_
          refine XS.icmpYes X0.here hexec rfl (pc0 := 12) rfl (hb hbytes d12) rfl (ii_ge_t (nlt32 (by omega) (by omega))) (by decide) rfl ?_
          refine iconstV X0.here hexec rfl 1 (hb hbytes d32) (by decide) ?_
          exact Steps.refl _)⟩
      | succ r ih =>
        intro i hi he cl
        have c4 : Steps p.tables e below (s₁.setTop (entryFrame m #[.ref a, .ref b] 3)) (s₁.setTop (mkF m 21 #[.val (.ref a), .val (.ref b), .val (.int (Int32.ofNat i))] [.int (yv B i), .int (yv A i)])) := cl.trans (by
          refine XS.iloadN X0.here hexec rfl (hb hbytes d9) rfl ?_
          refine XS.aloadN X0.here hexec rfl (hb hbytes d10) rfl rfl ?_
          refine X0.alen hexec hA0 rfl rfl (hb hbytes d11) ?_
          refine XS.icmpNo X0.here hexec rfl (hb hbytes d12) rfl (ii_ge_f (lt32 (by omega) (by omega))) ?_
          refine XS.aloadN X0.here hexec rfl (hb hbytes d15) rfl rfl ?_
          refine XS.iloadN X0.here hexec rfl (hb hbytes d16) rfl ?_
          refine X0.aget hexec hA0 rfl (yv_get hA tA (i := i) (by omega)) rfl rfl (hb hbytes d17) ?_
          refine XS.aloadN X0.here hexec rfl (hb hbytes d18) rfl rfl ?_
          refine XS.iloadN X0.here hexec rfl (hb hbytes d19) rfl ?_
          refine X0.aget hexec hB0 rfl (yv_get hB tB (i := i) (by omega)) rfl rfl (hb hbytes d20) ?_
          exact Steps.refl _)
        by_cases hv : yv A i = yv B i
        · have c5 : Steps p.tables e below (s₁.setTop (entryFrame m #[.ref a, .ref b] 3)) (s₁.setTop (mkF m 9 #[.val (.ref a), .val (.ref b), .val (.int (Int32.ofNat i + 1))] [])) := c4.trans (by
            refine XS.icmpYes X0.here hexec rfl (pc0 := 21) rfl (hb hbytes d21) rfl (ii_eq_t hv) (by decide) rfl ?_
            refine iincV X0.here hexec rfl 1 (hb hbytes d26) (by decide) rfl rfl ?_
            refine XS.goto X0.here hexec rfl (pc0 := 29) rfl (hb hbytes d29) (by decide) rfl ?_
            exact Steps.refl _)
          rw [succ32] at c5
          exact ih (i + 1) (by omega) (fun j hj => by
            by_cases e : j = i
            · rw [e]; exact hv
            · exact he j (by omega)) c5
        · exact ⟨25, _, 0, Or.inl rfl, Or.inr ⟨rfl, fun q => hv (q.2 i (by omega))⟩, c4.trans (by
            refine XS.icmpNo X0.here hexec rfl (hb hbytes d21) rfl (ii_eq_f hv) ?_
            refine iconstV X0.here hexec rfl 0 (hb hbytes d24) (by decide) ?_
            exact Steps.refl _)⟩
    obtain ⟨pc, Ls, v, hpc, hv, cz⟩ := loop A.slots.size 0 (by omega) (fun j hj => absurd hj (Nat.not_lt_zero j)) c3
    have nv : narrow .boolean (.int v) = .int v := by rcases hv with ⟨rfl, -⟩ | ⟨rfl, -⟩ <;> rfl
    rcases hpc with rfl | rfl
    · exact ⟨s₁, some (.int v), _, _, _, X0, rfl, rfl, rfl, (fun h => by cases h), ⟨v, rfl, hh0, hv⟩, fun fs hl => cz.trans (X0.ireturnOut hexec hret nv (Or.inr (Or.inl rfl)) (hb hbytes d25) hl)⟩
    · exact ⟨s₁, some (.int v), _, _, _, X0, rfl, rfl, rfl, (fun h => by cases h), ⟨v, rfl, hh0, hv⟩, fun fs hl => cz.trans (X0.ireturnOut hexec hret nv (Or.inr (Or.inl rfl)) (hb hbytes d33) hl)⟩
  · have c3 : Steps p.tables e below (s₁.setTop (entryFrame m #[.ref a, .ref b] 3)) (s₁.setTop (mkF m 35 #[.val (.ref a), .val (.ref b), .unset] [.int 0])) := c2.trans (by
      refine XS.icmpYes X0.here hexec rfl (pc0 := 4) rfl (hb hbytes d4) rfl (ii_ne_t (ne32 a31 b31 hs)) (by decide) rfl ?_
      refine iconstV X0.here hexec rfl 0 (hb hbytes d34) (by decide) ?_
      exact Steps.refl _)
    exact ⟨s₁, some (.int 0), _, _, _, X0, rfl, rfl, rfl, (fun h => by cases h), ⟨0, rfl, hh0, Or.inr ⟨rfl, fun q => hs q.1⟩⟩, fun fs hl => c3.trans (X0.ireturnOut hexec hret rfl (Or.inr (Or.inl rfl)) (hb hbytes d35) hl)⟩
end LEq
theorem Cod.ty {cd : Int32} {n : Nat} {f : Nat → Int32} {V : Cell} (h : Cod cd n f V) : Typed .byte V := fun i v hv => by
  have hi : i < V.slots.size := (Array.getElem?_eq_some_iff.mp hv).1
  rcases h with ⟨-, k1, k2⟩ | ⟨-, k1, k2, -⟩
  · rw [(k2 i (by omega)).1] at hv; cases hv; exact fits_lo8 _
  · rcases Nat.mod_two_eq_zero_or_one i with e | e
    · obtain ⟨j, rfl⟩ : ∃ j, i = 2 * j := ⟨i / 2, by omega⟩
      rw [(k2 j (by omega)).1] at hv; cases hv; exact fits_lo8 _
    · obtain ⟨j, rfl⟩ : ∃ j, i = 2 * j + 1 := ⟨i / 2, by omega⟩
      rw [(k2 j (by omega)).2] at hv; cases hv; exact fits_lo8 _
/-- the same text -/
def SameT (n : Nat) (f : Nat → Int32) (k : Nat) (g : Nat → Int32) : Prop := n = k ∧ ∀ j, j < n → f j = g j
theorem lo8_inj {x y : Int32} (h0 : ¬ x < 0) (h1 : ¬ 255 < x) (k0 : ¬ y < 0) (k1 : ¬ 255 < y) (h : lo8 x = lo8 y) : x = y := by
  rw [← lo8_mask h0 h1, ← lo8_mask k0 k1, h]
/-- arrays coded by one coder are equal just where the texts are -/
theorem Cod.eqv {cd : Int32} {n k : Nat} {f g : Nat → Int32} {V V' : Cell} (h : Cod cd n f V) (h' : Cod cd k g V') (hf : ∀ j, j < n → ¬ f j < 0 ∧ ¬ 65535 < f j) (hg : ∀ j, j < k → ¬ g j < 0 ∧ ¬ 65535 < g j) : EqC V V' ↔ SameT n f k g := by
  have yvv : ∀ {W : Cell} {i : Nat} {x : Int32}, W.slots[i]? = some (.int x) → yv W i = x := fun q => by unfold yv; rw [q]
  rcases h with ⟨rfl, k1, k2⟩ | ⟨rfl, k1, k2, -⟩
  · rcases h' with ⟨-, m1, m2⟩ | ⟨e, -⟩
    · constructor
      · rintro ⟨e1, e2⟩
        refine ⟨by omega, fun j hj => ?_⟩
        have q := e2 j (by omega)
        rw [yvv (k2 j hj).1, yvv (m2 j (by omega)).1] at q
        exact lo8_inj (hf j hj).1 (k2 j hj).2 (hg j (by omega)).1 (m2 j (by omega)).2 q
      · rintro ⟨rfl, e2⟩
        refine ⟨by omega, fun j hj => ?_⟩
        rw [yvv (k2 j (by omega)).1, yvv (m2 j (by omega)).1, e2 j (by omega)]
    · exact absurd e (by decide)
  · rcases h' with ⟨e, -⟩ | ⟨-, m1, m2, -⟩
    · exact absurd e (by decide)
    · constructor
      · rintro ⟨e1, e2⟩
        refine ⟨by omega, fun j hj => ?_⟩
        have q1 := e2 (2 * j) (by omega)
        have q2 := e2 (2 * j + 1) (by omega)
        rw [yvv (k2 j hj).1, yvv (m2 j (by omega)).1] at q1
        rw [yvv (k2 j hj).2, yvv (m2 j (by omega)).2] at q2
        rw [← pair_says (hf j hj).1 (hf j hj).2, ← pair_says (hg j (by omega)).1 (hg j (by omega)).2, q1, q2]
      · rintro ⟨rfl, e2⟩
        refine ⟨by omega, fun i hi => ?_⟩
        rcases Nat.mod_two_eq_zero_or_one i with e | e
        · obtain ⟨j, rfl⟩ : ∃ j, i = 2 * j := ⟨i / 2, by omega⟩
          rw [yvv (k2 j (by omega)).1, yvv (m2 j (by omega)).1, e2 j (by omega)]
        · obtain ⟨j, rfl⟩ : ∃ j, i = 2 * j + 1 := ⟨i / 2, by omega⟩
          rw [yvv (k2 j (by omega)).2, yvv (m2 j (by omega)).2, e2 j (by omega)]
/-- two codings differ: so do the texts -/
theorem Cod.dif {cd cd' : Int32} {n k : Nat} {f g : Nat → Int32} {V V' : Cell} (h : Cod cd n f V) (h' : Cod cd' k g V') (hne : ¬ cd = cd') : ¬ SameT n f k g := by
  rintro ⟨rfl, e⟩
  rcases h with ⟨rfl, -, k2⟩ | ⟨rfl, -, -, j, hj, hw⟩
  · rcases h' with ⟨rfl, -⟩ | ⟨-, -, -, j, hj, hw⟩
    · exact hne rfl
    · exact (k2 j hj).2 (by rw [e j hj]; exact hw)
  · rcases h' with ⟨-, -, m2⟩ | ⟨rfl, -⟩
    · exact (m2 j hj).2 (by rw [← e j hj]; exact hw)
    · exact hne rfl
/-- an object of exactly C is an instance of C -/
theorem cinst {p : Program} {l : Launch} {e : Env} {R : Room} {s : State} {m : MethodId} {args : Array Value} {below : List Frame} {meth : Method} {c : Code} {T : State} {locs : List Loc} {cells slots : Nat} (X : Stand p l e R s m args below meth c T locs cells slots) (hexec : p.tables.exec = Jvm.exec) {own C : String} {index : Nat} (hown : s.vm.findClass own = some m.cls) (hlink : (Cond.classLink own index C).before args s = true) {a : Addr} (hE : Exact C a T)
    {g : JFrame} (hg : g.method = m) {rest : List Value} (hstack : g.stack = .ref a :: rest) (hdg : decode c.code g.pc = .ok (.instanceof index, 3)) :
    ∃ T', Stand p l e R s m args below meth c T' locs cells slots ∧ T'.heap = T.heap ∧ ∀ target, Steps p.tables e below (T'.setTop { g with pc := g.pc + 3, stack := .int 1 :: rest }) target → Steps p.tables e below (T.setTop g) target := by
  obtain ⟨cB, h1, D, h2, h3, h4⟩ := hE
  have h1' : s.vm.findClass C = some cB := by rw [← X.warmed.alike.findClass]; exact h1
  obtain ⟨vm', X', st⟩ := X.instanceofYes hexec hown hlink h2 h4 h1' (by rw [h3]; exact Jvm.Free.SB.assignable_self _ _) hg hstack hdg
  exact ⟨_, X', rfl, st⟩
theorem cself {p : Program} {l : Launch} {e : Env} {R : Room} {s : State} {m : MethodId} {args : Array Value} {below : List Frame} {meth : Method} {c : Code} {T : State} {locs : List Loc} {cells slots : Nat} (X : Stand p l e R s m args below meth c T locs cells slots) (hexec : p.tables.exec = Jvm.exec) {own C : String} {index : Nat} (hown : s.vm.findClass own = some m.cls) (hlink : (Cond.classLink own index C).before args s = true) {a : Addr} (hE : Exact C a T)
    {g : JFrame} (hg : g.method = m) {rest : List Value} (hstack : g.stack = .ref a :: rest) (hdg : decode c.code g.pc = .ok (.checkcast index, 3)) :
    ∃ T', Stand p l e R s m args below meth c T' locs cells slots ∧ T'.heap = T.heap ∧ ∀ target, Steps p.tables e below (T'.setTop { g with pc := g.pc + 3, stack := .ref a :: rest }) target → Steps p.tables e below (T.setTop g) target := by
  obtain ⟨cB, h1, D, h2, h3, h4⟩ := hE
  have h1' : s.vm.findClass C = some cB := by rw [← X.warmed.alike.findClass]; exact h1
  obtain ⟨vm', X', st⟩ := X.checkcastYes hexec hown hlink h2 h4 h1' (by rw [h3]; exact Jvm.Free.SB.assignable_self _ _) hg hstack hdg
  exact ⟨_, X', rfl, fun t h => st t (by rw [← hstack] at h; exact h)⟩
namespace SEq
def yN : MethodName := ⟨"java/lang/String", "equals", "(Ljava/lang/Object;)Z"⟩
abbrev yB : ByteArray := jdk_42_method_66_code
theorem d0 : decode yB 0 = .ok (.aload_n 0, 1) := by decide +kernel
theorem d1 : decode yB 1 = .ok (.aload_n 1, 1) := by decide +kernel
theorem d2 : decode yB 2 = .ok (.if_acmp (.ne) 5, 3) := by decide +kernel
theorem d5 : decode yB 5 = .ok (.iconst 1, 1) := by decide +kernel
theorem d6 : decode yB 6 = .ok (.ireturn, 1) := by decide +kernel
theorem d7 : decode yB 7 = .ok (.aload_n 1, 1) := by decide +kernel
theorem d8 : decode yB 8 = .ok (.instanceof 10, 3) := by decide +kernel
theorem d11 : decode yB 11 = .ok (.ifCond (.eq) 43, 3) := by decide +kernel
theorem d14 : decode yB 14 = .ok (.aload_n 1, 1) := by decide +kernel
theorem d15 : decode yB 15 = .ok (.checkcast 10, 3) := by decide +kernel
theorem d18 : decode yB 18 = .ok (.astore_n 2, 1) := by decide +kernel
theorem d19 : decode yB 19 = .ok (.getstatic 38, 3) := by decide +kernel
theorem d22 : decode yB 22 = .ok (.ifCond (.eq) 14, 3) := by decide +kernel
theorem d25 : decode yB 25 = .ok (.aload_n 0, 1) := by decide +kernel
theorem d26 : decode yB 26 = .ok (.getfield 15, 3) := by decide +kernel
theorem d29 : decode yB 29 = .ok (.aload_n 2, 1) := by decide +kernel
theorem d30 : decode yB 30 = .ok (.getfield 15, 3) := by decide +kernel
theorem d33 : decode yB 33 = .ok (.if_icmp (.ne) 21, 3) := by decide +kernel
theorem d36 : decode yB 36 = .ok (.aload_n 0, 1) := by decide +kernel
theorem d37 : decode yB 37 = .ok (.getfield 9, 3) := by decide +kernel
theorem d40 : decode yB 40 = .ok (.aload_n 2, 1) := by decide +kernel
theorem d41 : decode yB 41 = .ok (.getfield 9, 3) := by decide +kernel
theorem d44 : decode yB 44 = .ok (.invokestatic 541, 3) := by decide +kernel
theorem d47 : decode yB 47 = .ok (.ifCond (.eq) 7, 3) := by decide +kernel
theorem d50 : decode yB 50 = .ok (.iconst 1, 1) := by decide +kernel
theorem d51 : decode yB 51 = .ok (.goto 4, 3) := by decide +kernel
theorem d54 : decode yB 54 = .ok (.iconst 0, 1) := by decide +kernel
theorem d55 : decode yB 55 = .ok (.ireturn, 1) := by decide +kernel
def site : List Cond := [.classLink "java/lang/String" 10 "java/lang/String", .fieldLink "java/lang/String" 38 "java/lang/String" "COMPACT_STRINGS" "Z", .fieldLink "java/lang/String" 15 "java/lang/String" "coder" "B", .fieldLink "java/lang/String" 9 "java/lang/String" "value" "[B", LEq.tab] ++ staticW "java/lang/String" 541 LEq.yN
def tab : Cond := tabOf yN yB 3 (some .boolean) site
def P (x t : Addr) (V : Cell) (cd : Int32) (n : Nat) (f : Nat → Int32) (y t' : Addr) (V' : Cell) (cd' : Int32) (k : Nat) (g : Nat → Int32) (z : Int32) (args : Array Value) (s : State) : Prop := args = #[.ref x, .ref y] ∧ Txt x t V cd n f s ∧ Txt y t' V' cd' k g s ∧ StaticIs s "java/lang/String" "COMPACT_STRINGS" "Z" (.int z) ∧ ¬ z = 0
/-- equals(Object) of two Strings: whether the texts are the same -/
theorem law (l : Launch) (x t : Addr) (V : Cell) (cd : Int32) (n : Nat) (f : Nat → Int32) (y t' : Addr) (V' : Cell) (cd' : Int32) (k : Nat) (g : Nat → Int32) (z : Int32) : Law l yN 2 1 1 14 yB 3 (some .boolean) site (P x t V cd n f y t' V' cd' k g z) (Says01 (SameT n f k g)) [] 0 0 := by
  refine Law.of_walk (plainFor_of_name (by decide +kernel)) (by decide +kernel) (by decide +kernel) (by decide) (fun _ _ h => by rw [h.1]; rfl) (fun _ U U' hal hh h => ⟨h.1, h.2.1.mv hal hh, h.2.2.1.mv hal hh, h.2.2.2.1.there hal hh, h.2.2.2.2⟩) (fun r U U' V V' h1 hal h2 h => Says01.mv r U U' V V' h1 hal h2 h) ?_
  intro p e s m args below meth c s₁ X0 hexec hbytes hml hret hlk hnm hown hh0 W hP
  obtain ⟨rfl, hx, hy, s1, hz⟩ := hP
  have c1 : Steps p.tables e below (s₁.setTop (entryFrame m #[.ref x, .ref y] 3)) (s₁.setTop (mkF m 2 #[.val (.ref x), .val (.ref y), .unset] [.ref y, .ref x])) := Steps.trans (entry rfl) (by
    show Steps p.tables e below (s₁.setTop (mkF m 0 #[.val (.ref x), .val (.ref y), .unset] [])) _
    refine XS.aloadN X0.here hexec rfl (hb hbytes d0) rfl rfl ?_
    refine XS.aloadN X0.here hexec rfl (hb hbytes d1) rfl rfl ?_
    exact Steps.refl _)
  by_cases hxy : x = y
  · have c2 : Steps p.tables e below (s₁.setTop (entryFrame m #[.ref x, .ref y] 3)) (s₁.setTop (mkF m 6 #[.val (.ref x), .val (.ref y), .unset] [.int 1])) := c1.trans (by
      refine acmpNo X0.here hexec rfl (hb hbytes d2) rfl rfl rfl (by simp [acmp, hxy]) ?_
      refine iconstV X0.here hexec rfl 1 (hb hbytes d5) (by decide) ?_
      exact Steps.refl _)
    subst hxy
    have ec : cd = cd' := by
      obtain ⟨D, fd, a1, a2, a3⟩ := hx.2.2.1
      obtain ⟨D', fd', b1, b2, b3⟩ := hy.2.2.1
      cases a1.symm.trans b1
      obtain ⟨q1, q2, q3, q4⟩ := a2.1
      obtain ⟨r1, r2, r3, r4⟩ := b2.1
      cases q4.symm.trans r4
      cases a3.symm.trans b3; rfl
    have et : t = t' := by
      obtain ⟨D, fd, a1, a2, a3⟩ := hx.2.1
      obtain ⟨D', fd', b1, b2, b3⟩ := hy.2.1
      cases a1.symm.trans b1
      obtain ⟨q1, q2, q3, q4⟩ := a2.1
      obtain ⟨r1, r2, r3, r4⟩ := b2.1
      cases q4.symm.trans r4
      cases a3.symm.trans b3; rfl
    subst ec et
    have ev : V = V' := by cases hx.2.2.2.1.1.symm.trans hy.2.2.2.1.1; rfl
    subst ev
    have hs : SameT n f k g := (Cod.eqv hx.2.2.2.2.1 hy.2.2.2.2.1 hx.2.2.2.2.2 hy.2.2.2.2.2).mp ⟨rfl, fun _ _ => rfl⟩
    exact ⟨s₁, some (.int 1), _, _, _, X0, rfl, rfl, rfl, (fun h => by cases h), ⟨1, rfl, hh0, Or.inl ⟨rfl, hs⟩⟩, fun fs hl => c2.trans (X0.ireturnOut hexec hret rfl (Or.inr (Or.inl rfl)) (hb hbytes d6) hl)⟩
  · have c2 : Steps p.tables e below (s₁.setTop (entryFrame m #[.ref x, .ref y] 3)) (s₁.setTop (mkF m 8 #[.val (.ref x), .val (.ref y), .unset] [.ref y])) := c1.trans (by
      refine acmpYes X0.here hexec rfl (pc0 := 2) rfl (hb hbytes d2) rfl rfl rfl (by simp [acmp, hxy]) (by decide) rfl ?_
      refine XS.aloadN X0.here hexec rfl (hb hbytes d7) rfl rfl ?_
      exact Steps.refl _)
    obtain ⟨T3, X3, q3, st3⟩ := cinst X0 hexec hown (wk W (.classLink "java/lang/String" 10 "java/lang/String")) (hy.mv X0.warmed.alike hh0).1 (g := (mkF m 8 #[.val (.ref x), .val (.ref y), .unset] [.ref y])) rfl (rest := []) rfl (hb hbytes d8)
    have hh3 := q3.trans hh0
    have c4 : Steps p.tables e below (s₁.setTop (entryFrame m #[.ref x, .ref y] 3)) (T3.setTop (mkF m 15 #[.val (.ref x), .val (.ref y), .unset] [.ref y])) := (c2.trans (st3 _ (Steps.refl _))).trans (by
      refine XS.ifNo X3.here hexec rfl (hb hbytes d11) rfl (i0_eq_f (by decide)) ?_
      refine XS.aloadN X3.here hexec rfl (hb hbytes d14) rfl rfl ?_
      exact Steps.refl _)
    obtain ⟨T5, X5, q5, st5⟩ := cself X3 hexec hown (wk W (.classLink "java/lang/String" 10 "java/lang/String")) (hy.mv X3.warmed.alike hh3).1 (g := (mkF m 15 #[.val (.ref x), .val (.ref y), .unset] [.ref y])) rfl (rest := []) rfl (hb hbytes d15)
    have hh5 := q5.trans hh3
    have c6 : Steps p.tables e below (s₁.setTop (entryFrame m #[.ref x, .ref y] 3)) (T5.setTop (mkF m 19 #[.val (.ref x), .val (.ref y), .val (.ref y)] [])) := (c4.trans (st5 _ (Steps.refl _))).trans (by
      refine XS.astoreN X5.here hexec rfl (hb hbytes d18) rfl rfl rfl ?_
      exact Steps.refl _)
    obtain ⟨T7, X7, q7, st7⟩ := X5.sget hexec hown (wk W (.fieldLink "java/lang/String" 38 "java/lang/String" "COMPACT_STRINGS" "Z")) s1 (fun _ _ h => by rw [hh5]; exact h) (g := (mkF m 19 #[.val (.ref x), .val (.ref y), .val (.ref y)] [])) rfl (hb hbytes d19)
    have hh7 := q7.trans hh5
    have c8 : Steps p.tables e below (s₁.setTop (entryFrame m #[.ref x, .ref y] 3)) (T7.setTop (mkF m 26 #[.val (.ref x), .val (.ref y), .val (.ref y)] [.ref x])) := (c6.trans (st7 _ (Steps.refl _))).trans (by
      refine XS.ifNo X7.here hexec rfl (hb hbytes d22) rfl (i0_eq_f hz) ?_
      refine XS.aloadN X7.here hexec rfl (hb hbytes d25) rfl rfl ?_
      exact Steps.refl _)
    obtain ⟨T9, X9, q9, st9⟩ := X7.hget hexec hown (wk W (.fieldLink "java/lang/String" 15 "java/lang/String" "coder" "B")) (hx.mv X7.warmed.alike hh7).2.2.1 (g := (mkF m 26 #[.val (.ref x), .val (.ref y), .val (.ref y)] [.ref x])) rfl (rest := []) rfl (hb hbytes d26)
    have hh9 := q9.trans hh7
    have c10 : Steps p.tables e below (s₁.setTop (entryFrame m #[.ref x, .ref y] 3)) (T9.setTop (mkF m 30 #[.val (.ref x), .val (.ref y), .val (.ref y)] [.ref y, .int cd])) := (c8.trans (st9 _ (Steps.refl _))).trans (by
      refine XS.aloadN X9.here hexec rfl (hb hbytes d29) rfl rfl ?_
      exact Steps.refl _)
    obtain ⟨T11, X11, q11, st11⟩ := X9.hget hexec hown (wk W (.fieldLink "java/lang/String" 15 "java/lang/String" "coder" "B")) (hy.mv X9.warmed.alike hh9).2.2.1 (g := (mkF m 30 #[.val (.ref x), .val (.ref y), .val (.ref y)] [.ref y, .int cd])) rfl (rest := [.int cd]) rfl (hb hbytes d30)
    have hh11 := q11.trans hh9
    have c12 : Steps p.tables e below (s₁.setTop (entryFrame m #[.ref x, .ref y] 3)) (T11.setTop (mkF m 33 #[.val (.ref x), .val (.ref y), .val (.ref y)] [.int cd', .int cd])) := c10.trans (st11 _ (Steps.refl _))
    by_cases hcd : cd = cd'
    · subst hcd
      have c13 : Steps p.tables e below (s₁.setTop (entryFrame m #[.ref x, .ref y] 3)) (T11.setTop (mkF m 37 #[.val (.ref x), .val (.ref y), .val (.ref y)] [.ref x])) := c12.trans (by
        refine XS.icmpNo X11.here hexec rfl (hb hbytes d33) rfl (ii_ne_f rfl) ?_
        refine XS.aloadN X11.here hexec rfl (hb hbytes d36) rfl rfl ?_
        exact Steps.refl _)
      obtain ⟨T14, X14, q14, st14⟩ := X11.hget hexec hown (wk W (.fieldLink "java/lang/String" 9 "java/lang/String" "value" "[B")) (hx.mv X11.warmed.alike hh11).2.1 (g := (mkF m 37 #[.val (.ref x), .val (.ref y), .val (.ref y)] [.ref x])) rfl (rest := []) rfl (hb hbytes d37)
      have hh14 := q14.trans hh11
      have c15 : Steps p.tables e below (s₁.setTop (entryFrame m #[.ref x, .ref y] 3)) (T14.setTop (mkF m 41 #[.val (.ref x), .val (.ref y), .val (.ref y)] [.ref y, .ref t])) := (c13.trans (st14 _ (Steps.refl _))).trans (by
        refine XS.aloadN X14.here hexec rfl (hb hbytes d40) rfl rfl ?_
        exact Steps.refl _)
      obtain ⟨T16, X16, q16, st16⟩ := X14.hget hexec hown (wk W (.fieldLink "java/lang/String" 9 "java/lang/String" "value" "[B")) (hy.mv X14.warmed.alike hh14).2.1 (g := (mkF m 41 #[.val (.ref x), .val (.ref y), .val (.ref y)] [.ref y, .ref t])) rfl (rest := [.ref t]) rfl (hb hbytes d41)
      have hh16 := q16.trans hh14
      have c17 : Steps p.tables e below (s₁.setTop (entryFrame m #[.ref x, .ref y] 3)) (T16.setTop (mkF m 44 #[.val (.ref x), .val (.ref y), .val (.ref y)] [.ref t', .ref t])) := c15.trans (st16 _ (Steps.refl _))
      obtain ⟨v18, T18, X18, E18, g18⟩ := X16.callS hexec (LEq.law l t V t' V') hown (wks W (staticW "java/lang/String" 541 LEq.yN)) (wk W LEq.tab) (W := 0) (Nat.le_of_ble_eq_true rfl) (Nat.le_of_ble_eq_true rfl) (Nat.le_refl _) (Nat.le_refl _) (g := (mkF m 44 #[.val (.ref x), .val (.ref y), .val (.ref y)] [.ref t', .ref t])) rfl (by rw [hml]; rfl) c17 (argsL := [.ref t, .ref t']) (rest := []) rfl rfl (by show 2 * 0 + 0 ≤ _; decide) (hb hbytes d44) (⟨rfl, hx.2.2.2.1.mv X16.warmed.alike hh16, hx.2.2.2.2.1.ty, hy.2.2.2.1.mv X16.warmed.alike hh16, hy.2.2.2.2.1.ty⟩)
      obtain ⟨v, rfl, q18, hv⟩ := E18
      have iff := Cod.eqv hx.2.2.2.2.1 hy.2.2.2.2.1 hx.2.2.2.2.2 hy.2.2.2.2.2
      rcases hv with ⟨rfl, he⟩ | ⟨rfl, he⟩
      · have c19 : Steps p.tables e below (s₁.setTop (entryFrame m #[.ref x, .ref y] 3)) (T18.setTop (mkF m 55 #[.val (.ref x), .val (.ref y), .val (.ref y)] [.int 1])) := Steps.trans g18 (by
          refine XS.ifNo X18.here hexec rfl (hb hbytes d47) rfl (i0_eq_f (by decide)) ?_
          refine iconstV X18.here hexec rfl 1 (hb hbytes d50) (by decide) ?_
          refine XS.goto X18.here hexec rfl (pc0 := 51) rfl (hb hbytes d51) (by decide) rfl ?_
          exact Steps.refl _)
        exact ⟨T18, some (.int 1), _, _, _, X18, rfl, rfl, rfl, (fun h => by cases h), ⟨1, rfl, q18.trans hh16, Or.inl ⟨rfl, iff.mp he⟩⟩, fun fs hl => c19.trans (X18.ireturnOut hexec hret rfl (Or.inr (Or.inl rfl)) (hb hbytes d55) hl)⟩
      · have c19 : Steps p.tables e below (s₁.setTop (entryFrame m #[.ref x, .ref y] 3)) (T18.setTop (mkF m 55 #[.val (.ref x), .val (.ref y), .val (.ref y)] [.int 0])) := Steps.trans g18 (by
          refine XS.ifYes X18.here hexec rfl (pc0 := 47) rfl (hb hbytes d47) rfl (i0_eq_t rfl) (by decide) rfl ?_
          refine iconstV X18.here hexec rfl 0 (hb hbytes d54) (by decide) ?_
          exact Steps.refl _)
        exact ⟨T18, some (.int 0), _, _, _, X18, rfl, rfl, rfl, (fun h => by cases h), ⟨0, rfl, q18.trans hh16, Or.inr ⟨rfl, fun q => he (iff.mpr q)⟩⟩, fun fs hl => c19.trans (X18.ireturnOut hexec hret rfl (Or.inr (Or.inl rfl)) (hb hbytes d55) hl)⟩
    · have c13 : Steps p.tables e below (s₁.setTop (entryFrame m #[.ref x, .ref y] 3)) (T11.setTop (mkF m 55 #[.val (.ref x), .val (.ref y), .val (.ref y)] [.int 0])) := c12.trans (by
        refine XS.icmpYes X11.here hexec rfl (pc0 := 33) rfl (hb hbytes d33) rfl (ii_ne_t hcd) (by decide) rfl ?_
        refine iconstV X11.here hexec rfl 0 (hb hbytes d54) (by decide) ?_
        exact Steps.refl _)
      exact ⟨T11, some (.int 0), _, _, _, X11, rfl, rfl, rfl, (fun h => by cases h), ⟨0, rfl, hh11, Or.inr ⟨rfl, Cod.dif hx.2.2.2.2.1 hy.2.2.2.2.1 hcd⟩⟩, fun fs hl => c13.trans (X11.ireturnOut hexec hret rfl (Or.inr (Or.inl rfl)) (hb hbytes d55) hl)⟩
theorem pays {l : Launch} {R : Room} {p : Program} {e : Env} {below : List Frame} {s : State} {sargs : Array Value} {len W : Nat} (x t : Addr) (V : Cell) (cd : Int32) (n : Nat) (f : Nat → Int32) (y t' : Addr) (V' : Cell) (cd' : Int32) (k : Nat) (g : Nat → Int32) (z : Int32) (htab : tab.before sargs s = true) (hfr : 2 ≤ R.frames) (hlo : W + 28 ≤ R.locals) :
    Back l R p e below s sargs yN len W (fun A₁ a₁ => A₁.cells + 0 ≤ R.cells ∧ A₁.slots + 0 ≤ R.slots ∧ P x t V cd n f y t' V' cd' k g z a₁ A₁.U) (fun A₁ _ v₁ B₁ => Says01 (SameT n f k g) v₁ A₁.U B₁.U ∧ B₁.locs = A₁.locs ++ [] ∧ B₁.cells = A₁.cells + 0 ∧ B₁.slots = A₁.slots + 0) :=
  (law l x t V cd n f y t' V' cd' k g z).pays htab hfr (by omega)
end SEq
end StrChars
namespace StrChars.Road
open Jvm Sem ClassFile Op Lib Jvm.Stand Jvm.Free Jvm.Free.XT
open Jvm.Lib.Cold (StaticIs)
/-- the words of String.equals(Object) -/
abbrev wordsEq : List Jvm.Cond := [.code SEq.yN SEq.yB 3 (some .boolean), .initialized ST, .classLink ST 10 ST, .fieldLink ST 38 ST "COMPACT_STRINGS" "Z", .fieldLink ST 15 ST "coder" "B", .fieldLink ST 9 ST "value" "[B", .methodLink ST 541 LEq.yN, .static LEq.yN, .code LEq.yN LEq.yB 3 (some .boolean), .initialized "java/lang/StringLatin1"]
theorem tabEq_of {a : Array Value} {s : State} (h : ∀ w ∈ wordsEq, w.before a s = true) : SEq.tab.before a s = true := by
  have hl : LEq.tab.before a s = true := unparts (wk h (.code LEq.yN LEq.yB 3 (some .boolean))) (wks h (.initialized LEq.yN.cls :: LEq.site))
  have q := consq hl h
  exact unparts (wk q (.code SEq.yN SEq.yB 3 (some .boolean))) (wks q (.initialized SEq.yN.cls :: SEq.site))
theorem movedEq {Z s : State} {a0 args : Array Value} (hZ : Z.Warmed39 s.vm) (hw : ∀ d ∈ wordsEq, d.before a0 Z = true) : ∀ d ∈ wordsEq, d.before args s = true := fun d hd => by
  have t : ∀ d ∈ wordsEq, (d.onTables && d.keepsFace) = true := by decide +kernel
  exact RoadKit.mv hZ (hw d hd) (t d hd)
/-- the road's facts of a String, as the laws ask it -/
theorem txt_of {Z U : State} {a0 : Array Value} {kI : Nat} (wi : (Jvm.Cond.instantiable ST kI).before a0 Z = true) (al : Z.vm.Alike U.vm) {x t : Addr} {kb : ClassId} {cs : List Int32} {cd N2 : Int32} {vs : List Value} (E : RoadKit.Exa Z U.heap x ST) (V : RoadKit.Fld Z U.heap x ST "value" "[B" (.ref t)) (C : RoadKit.Fld Z U.heap x ST "coder" "B" (.int cd)) (K : RoadKit.Arv Z U.heap t kb .byte N2 vs (.int 0)) (hc : CodA cs cd N2 vs) (hb : ∀ c ∈ cs, ¬ c < 0 ∧ ¬ (65535 : Int32) < c) (l2 : cs.length ≤ 4000) :
    ∃ A, Txt x t A cd cs.length (fun j => cs.getD j 0) U := by
  obtain ⟨A, K1, K2, K3, K4, K5, K6⟩ := K
  have hcod := hc.cod (by omega) K3 K5
  obtain ⟨D, fV, fC, hB, F1, F2, g1, g2, -, -⟩ := strObj wi al E V C
  exact ⟨A, ⟨_, hB.2.2.1, D, hB.1, rfl, by cases q : D.vm <;> first | rfl | exact absurd q (hB.2.1.2 _)⟩, Has.of hB F1 g1, Has.of hB F2 g2, ⟨K1.1, State.isArrayOf_alike al K1.2.1, K1.2.2, by rcases hcod with ⟨-, q, -⟩ | ⟨-, q, -⟩ <;> omega⟩, hcod, fun j hj => by
    have e : cs.getD j 0 = cs[j] := by simp [List.getD_eq_getElem?_getD, hj]
    show ¬ cs.getD j 0 < 0 ∧ ¬ 65535 < cs.getD j 0
    rw [e]; exact hb _ (List.getElem_mem _)⟩
theorem same_list (cs ds : List Int32) : SameT cs.length (fun j => cs.getD j 0) ds.length (fun j => ds.getD j 0) ↔ cs = ds := by
  constructor
  · rintro ⟨e, q⟩
    refine List.ext_getElem e fun j h1 h2 => ?_
    have := q j h1
    simpa [List.getD_eq_getElem?_getD, h1, h2] using this
  · rintro rfl
    exact ⟨rfl, fun _ _ => rfl⟩
/-- **equals(Object) OF TWO SUCH STRINGS**: 1 just where the chars are the same -/
theorem eqW {p : Program} {l : Launch} {e : Env} {R : Room} {s : State} {args : Array Value} {below : List Frame} {len W : Nat} {Z : State} {a0 : Array Value} {h : Heap} (hZ : Z.Warmed39 s.vm) (hw : ∀ d ∈ wordsEq, d.before a0 Z = true) {kI : Nat} (wi : (Jvm.Cond.instantiable ST kI).before a0 Z = true)
    {x t : Addr} {kb : ClassId} {cs : List Int32} {cd N2 : Int32} {vs : List Value} (E : RoadKit.Exa Z h x ST) (V : RoadKit.Fld Z h x ST "value" "[B" (.ref t)) (C : RoadKit.Fld Z h x ST "coder" "B" (.int cd)) (K : RoadKit.Arv Z h t kb .byte N2 vs (.int 0)) (hc : CodA cs cd N2 vs) (hb : ∀ c ∈ cs, ¬ c < 0 ∧ ¬ (65535 : Int32) < c) (l2 : cs.length ≤ 4000)
    {y t' : Addr} {kb' : ClassId} {ds : List Int32} {cd' N2' : Int32} {vs' : List Value} (E' : RoadKit.Exa Z h y ST) (V' : RoadKit.Fld Z h y ST "value" "[B" (.ref t')) (C' : RoadKit.Fld Z h y ST "coder" "B" (.int cd')) (K' : RoadKit.Arv Z h t' kb' .byte N2' vs' (.int 0)) (hc' : CodA ds cd' N2' vs') (hb' : ∀ c ∈ ds, ¬ c < 0 ∧ ¬ (65535 : Int32) < c) (l2' : ds.length ≤ 4000)
    {z : Int32} (S : RoadKit.Sta Z h ST "COMPACT_STRINGS" "Z" (.int z)) (hz : ¬ z = 0) (hfr : 2 ≤ R.frames) (hlo : W + 28 ≤ R.locals) :
    Back l R p e below s args (⟨"java/lang/String", "equals", "(Ljava/lang/Object;)Z"⟩ : MethodName) len W (fun P a => a = #[.ref x, .ref y] ∧ P.U.heap = h ∧ P.cells + 0 ≤ R.cells ∧ P.slots + 0 ≤ R.slots)
      (fun P _ v B => ∃ L, (((v = some (.int 1) ∧ cs = ds) ∨ (v = some (.int 0) ∧ ¬ cs = ds)) ∧ L = [] ∧ B.U.heap = h) ∧ B.locs = P.locs ++ L ∧ B.cells = P.cells + 0 ∧ B.slots = P.slots + 0) := by
  intro m meth c P g ig mk a X hg hsize hdg hW hn hp'
  obtain ⟨rfl, rfl, r1, r2⟩ := hp'
  have al : Z.vm.Alike P.U.vm := hZ.alike.trans X.warmed.alike
  obtain ⟨A, hx⟩ := txt_of wi al E V C K hc hb l2
  obtain ⟨A', hy⟩ := txt_of wi al E' V' C' K' hc' hb' l2'
  obtain ⟨v, B, X', ⟨⟨w, hv, hh, hq⟩, hl, hk, hs⟩, st⟩ := SEq.pays x t A cd cs.length (fun j => cs.getD j 0) y t' A' cd' ds.length (fun j => ds.getD j 0) z (tabEq_of (movedEq hZ hw)) hfr hlo m meth c P g ig mk _ X hg hsize hdg hW hn ⟨r1, r2, rfl, hx, hy, sta_is al S, hz⟩
  refine ⟨v, B, X', ⟨[], ⟨?_, rfl, hh⟩, hl, hk, hs⟩, st⟩
  rcases hq with ⟨rfl, q⟩ | ⟨rfl, q⟩
  · exact Or.inl ⟨hv, (same_list cs ds).mp q⟩
  · exact Or.inr ⟨hv, fun e => q ((same_list cs ds).mpr e)⟩
end StrChars.Road
namespace StrChars
open Jvm Sem ClassFile Op Lib Jvm.Stand Jvm.Free.XT Jvm.Free.ALB Jvm.Free.JM Jvm.Free
open Jvm.Lib.Cold (StaticIs)
namespace ChN
def yN : MethodName := ⟨"java/lang/String", "charAt", "(I)C"⟩
abbrev yB : ByteArray := jdk_42_method_56_code
theorem d0 : decode yB 0 = .ok (.aload_n 0, 1) := by decide +kernel
theorem d1 : decode yB 1 = .ok (.invokevirtual 492, 3) := by decide +kernel
theorem d4 : decode yB 4 = .ok (.ifCond (.eq) 12, 3) := by decide +kernel
theorem d7 : decode yB 7 = .ok (.aload_n 0, 1) := by decide +kernel
theorem d8 : decode yB 8 = .ok (.getfield 9, 3) := by decide +kernel
theorem d11 : decode yB 11 = .ok (.iload_n 1, 1) := by decide +kernel
theorem d12 : decode yB 12 = .ok (.invokestatic 495, 3) := by decide +kernel
theorem d15 : decode yB 15 = .ok (.ireturn, 1) := by decide +kernel
def site : List Cond := [.fieldLink "java/lang/String" 9 "java/lang/String" "value" "[B", IsL.tab, LChA.tab] ++ virtW "java/lang/String" 492 "java/lang/String" IsL.yN IsL.yN ++ staticW "java/lang/String" 495 LChA.yN
def tab : Cond := tabOf yN yB 2 (some .char) site
def P (x t : Addr) (V : Cell) (n : Nat) (f : Nat → Int32) (z : Int32) (fm : Value) (i : Nat) (args : Array Value) (s : State) : Prop := args = #[.ref x, .int (Int32.ofNat i)] ∧ Txt x t V 0 n f s ∧ i < n ∧ StaticIs s "java/lang/String" "COMPACT_STRINGS" "Z" (.int z) ∧ ¬ z = 0 ∧ StaticIs s "jdk/internal/util/Preconditions" "SIOOBE_FORMATTER" "Ljava/util/function/BiFunction;" fm ∧ fm.isRef = true
def E (f : Nat → Int32) (i : Nat) (r : Option Value) (s u : State) : Prop := XT.PureE (some (.int (f i))) r s u
/-- charAt(i) of a Latin-1 String of n chars, i < n: f i -/
theorem law (l : Launch) (x t : Addr) (V : Cell) (n : Nat) (f : Nat → Int32) (z : Int32) (fm : Value) (i : Nat) : Law l yN 2 1 3 40 yB 2 (some .char) site (P x t V n f z fm i) (E f i) [] 0 0 := by
  refine Law.of_walk (plainFor_of_name (by decide +kernel)) (by decide +kernel) (by decide +kernel) (by decide) (fun _ _ h => by rw [h.1]; rfl) (fun _ U U' hal hh h => ⟨h.1, h.2.1.mv hal hh, h.2.2.1, h.2.2.2.1.there hal hh, h.2.2.2.2.1, h.2.2.2.2.2.1.there hal hh, h.2.2.2.2.2.2⟩) (fun r U U' V V' h1 hal h2 h => XT.PureE.mv r U U' V V' h1 hal h2 h) ?_
  intro p e s m args below meth c s₁ X0 hexec hbytes hml hret hlk hnm hown hh0 W hP
  obtain ⟨rfl, hx, hi, s1, hz, s3, rf⟩ := hP
  have v31 := hx.2.2.2.1.2.2.2
  have hr := hx.2.2.2.2.2 i hi
  have hx0 := hx.mv X0.warmed.alike hh0
  have c1 : Steps p.tables e below (s₁.setTop (entryFrame m #[.ref x, .int (Int32.ofNat i)] 2)) (s₁.setTop (mkF m 1 #[.val (.ref x), .val (.int (Int32.ofNat i))] [.ref x])) := Steps.trans (entry rfl) (by
    show Steps p.tables e below (s₁.setTop (mkF m 0 #[.val (.ref x), .val (.int (Int32.ofNat i))] [])) _
    refine XS.aloadN X0.here hexec rfl (hb hbytes d0) rfl rfl ?_
    exact Steps.refl _)
  obtain ⟨v2, T2, X2, E2, g2⟩ := X0.callV hexec (IsL.law l x 0 z) hown (wks W (virtW "java/lang/String" 492 "java/lang/String" IsL.yN IsL.yN)) rfl (by decide) (wk W IsL.tab) (W := 0) (Nat.le_of_ble_eq_true rfl) (Nat.le_of_ble_eq_true rfl) (Nat.le_refl _) (Nat.le_refl _) (hx0.1.fc X0.warmed.alike) hx0.1.is (g := (mkF m 1 #[.val (.ref x), .val (.int (Int32.ofNat i))] [.ref x])) rfl (by rw [hml]; rfl) c1 (argsL := []) (rest := []) rfl rfl (by show 2 * 0 + 0 ≤ _; decide) (hb hbytes d1) (⟨rfl, hx0.2.2.1, hx.2.2.2.2.1.cd, s1.there X0.warmed.alike hh0, hz⟩)
  obtain ⟨rfl, q2⟩ := E2
  have hh2 := q2.trans hh0
  have hx2 := hx.mv X2.warmed.alike hh2
  obtain ⟨-, k1, k2⟩ | ⟨k0, -⟩ := hx.2.2.2.2.1
  · have c3 : Steps p.tables e below (s₁.setTop (entryFrame m #[.ref x, .int (Int32.ofNat i)] 2)) (T2.setTop (mkF m 8 #[.val (.ref x), .val (.int (Int32.ofNat i))] [.ref x])) := Steps.trans g2 (by
      refine XS.ifNo X2.here hexec rfl (hb hbytes d4) rfl (i0_eq_f (by decide)) ?_
      refine XS.aloadN X2.here hexec rfl (hb hbytes d7) rfl rfl ?_
      exact Steps.refl _)
    obtain ⟨T4, X4, q4, st4⟩ := X2.hget hexec hown (wk W (.fieldLink "java/lang/String" 9 "java/lang/String" "value" "[B")) hx2.2.1 (g := (mkF m 8 #[.val (.ref x), .val (.int (Int32.ofNat i))] [.ref x])) rfl (rest := []) rfl (hb hbytes d8)
    have hh4 := q4.trans hh2
    have c5 : Steps p.tables e below (s₁.setTop (entryFrame m #[.ref x, .int (Int32.ofNat i)] 2)) (T4.setTop (mkF m 12 #[.val (.ref x), .val (.int (Int32.ofNat i))] [.int (Int32.ofNat i), .ref t])) := (c3.trans (st4 _ (Steps.refl _))).trans (by
      refine XS.iloadN X4.here hexec rfl (hb hbytes d11) rfl ?_
      exact Steps.refl _)
    obtain ⟨v6, T6, X6, E6, g6⟩ := X4.callS hexec (LChA.law l t V i (lo8 (f i)) fm) hown (wks W (staticW "java/lang/String" 495 LChA.yN)) (wk W LChA.tab) (W := 0) (Nat.le_of_ble_eq_true rfl) (Nat.le_of_ble_eq_true rfl) (Nat.le_refl _) (Nat.le_refl _) (g := (mkF m 12 #[.val (.ref x), .val (.int (Int32.ofNat i))] [.int (Int32.ofNat i), .ref t])) rfl (by rw [hml]; rfl) c5 (argsL := [.ref t, .int (Int32.ofNat i)]) (rest := []) rfl rfl (by show 2 * 0 + 0 ≤ _; decide) (hb hbytes d12) (⟨rfl, hx.2.2.2.1.mv X4.warmed.alike hh4, (k2 i hi).1, s3.there X4.warmed.alike hh4, rf⟩)
    obtain ⟨rfl, q6⟩ := E6
    rw [chr8_lo8 hr.1 (k2 i hi).2] at g6
    exact ⟨T6, some (.int (f i)), _, _, _, X6, rfl, rfl, rfl, (fun h => by cases h), ⟨rfl, q6.trans hh4⟩, fun fs hl => Steps.trans g6 (X6.ireturnOut hexec hret (narrow_ch hr.1 hr.2) (Or.inr (Or.inr (Or.inr (Or.inl rfl)))) (hb hbytes d15) hl)⟩
  · exact absurd k0 (by decide)
theorem pays {l : Launch} {R : Room} {p : Program} {e : Env} {below : List Frame} {s : State} {sargs : Array Value} {len W : Nat} (x t : Addr) (V : Cell) (n : Nat) (f : Nat → Int32) (z : Int32) (fm : Value) (i : Nat) (htab : tab.before sargs s = true) (hfr : 4 ≤ R.frames) (hlo : W + 53 ≤ R.locals) :
    Back l R p e below s sargs yN len W (fun A₁ a₁ => A₁.cells + 0 ≤ R.cells ∧ A₁.slots + 0 ≤ R.slots ∧ P x t V n f z fm i a₁ A₁.U) (fun A₁ _ v₁ B₁ => E f i v₁ A₁.U B₁.U ∧ B₁.locs = A₁.locs ++ [] ∧ B₁.cells = A₁.cells + 0 ∧ B₁.slots = A₁.slots + 0) :=
  (law l x t V n f z fm i).pays htab hfr (by omega)
end ChN
end StrChars
namespace StrChars.Road
open Jvm Sem ClassFile Op Lib Jvm.Stand Jvm.Free Jvm.Free.XT
open Jvm.Lib.Cold (StaticIs)
/-- the words of String.charAt(int), the Latin-1 road alone -/
abbrev wordsChN : List Jvm.Cond := [.code ChN.yN ChN.yB 2 (some .char), .initialized ST, .fieldLink ST 9 ST "value" "[B", .fieldLink ST 38 ST "COMPACT_STRINGS" "Z", .fieldLink ST 15 ST "coder" "B", .code IsL.yN IsL.yB 1 (some .boolean), .methodLink ST 492 IsL.yN, .declares IsL.yN, .selects ST IsL.yN IsL.yN, .instanceMethod IsL.yN,
  .methodLink ST 495 LChA.yN, .static LChA.yN, .code LChA.yN LChA.yB 2 (some .char), .initialized "java/lang/StringLatin1", .methodLink "java/lang/StringLatin1" 9 JO.Str_checkIndex.yN, .static JO.Str_checkIndex.yN, .code JO.Str_checkIndex.yN JO.Str_checkIndex.yB 2 none,
  .fieldLink ST 1053 "jdk/internal/util/Preconditions" "SIOOBE_FORMATTER" "Ljava/util/function/BiFunction;", .methodLink ST 1059 JC.PreCheck.yN, .static JC.PreCheck.yN, .code JC.PreCheck.yN JC.PreCheck.yB 3 (some .int), .initialized "jdk/internal/util/Preconditions"]
theorem tabChN_of {a : Array Value} {s : State} (h : ∀ w ∈ wordsChN, w.before a s = true) : ChN.tab.before a s = true := by
  have hp : JC.PreCheck.tab.before a s = true := unparts (wk h (.code JC.PreCheck.yN JC.PreCheck.yB 3 (some .int))) (wks h (.initialized JC.PreCheck.yN.cls :: JC.PreCheck.site))
  have qk := consq hp h
  have hk : JO.Str_checkIndex.tab.before a s = true := unparts (wk qk (.code JO.Str_checkIndex.yN JO.Str_checkIndex.yB 2 none)) (wks qk (.initialized JO.Str_checkIndex.yN.cls :: JO.Str_checkIndex.site))
  have ql := consq hk h
  have hl : LChA.tab.before a s = true := unparts (wk ql (.code LChA.yN LChA.yB 2 (some .char))) (wks ql (.initialized LChA.yN.cls :: LChA.site))
  have hi : IsL.tab.before a s = true := unparts (wk h (.code IsL.yN IsL.yB 1 (some .boolean))) (wks h (.initialized IsL.yN.cls :: IsL.site))
  have q := consq hi (consq hl h)
  exact unparts (wk q (.code ChN.yN ChN.yB 2 (some .char))) (wks q (.initialized ChN.yN.cls :: ChN.site))
theorem movedChN {Z s : State} {a0 args : Array Value} (hZ : Z.Warmed39 s.vm) (hw : ∀ d ∈ wordsChN, d.before a0 Z = true) : ∀ d ∈ wordsChN, d.before args s = true := fun d hd => by
  have t : ∀ d ∈ wordsChN, (d.onTables && d.keepsFace) = true := by decide +kernel
  exact RoadKit.mv hZ (hw d hd) (t d hd)
/-- **charAt(i) OF A LATIN-1 STRING**, i < n: the char -/
theorem chN {p : Program} {l : Launch} {e : Env} {R : Room} {s : State} {args : Array Value} {below : List Frame} {len W : Nat} {Z : State} {a0 : Array Value} {h : Heap} (hZ : Z.Warmed39 s.vm) (hw : ∀ d ∈ wordsChN, d.before a0 Z = true) {kI : Nat} (wi : (Jvm.Cond.instantiable ST kI).before a0 Z = true)
    {x t : Addr} {kb : ClassId} {cs : List Int32} {N2 z : Int32} {vs : List Value} {fm : Value} {i : Nat} {j : Int32} (E : RoadKit.Exa Z h x ST) (V : RoadKit.Fld Z h x ST "value" "[B" (.ref t)) (C : RoadKit.Fld Z h x ST "coder" "B" (.int 0)) (K : RoadKit.Arv Z h t kb .byte N2 vs (.int 0)) (hc : CodA cs 0 N2 vs) (hb : ∀ c ∈ cs, ¬ c < 0 ∧ ¬ (65535 : Int32) < c)
    (S : RoadKit.Sta Z h ST "COMPACT_STRINGS" "Z" (.int z)) (hz : ¬ z = 0) (F : RoadKit.Sta Z h "jdk/internal/util/Preconditions" "SIOOBE_FORMATTER" "Ljava/util/function/BiFunction;" fm) (rf : fm.isRef = true) (l2 : cs.length ≤ 4000) (hi : i < cs.length) (hj : j = Int32.ofNat i) (hfr : 4 ≤ R.frames) (hlo : W + 53 ≤ R.locals) :
    Back l R p e below s args (⟨"java/lang/String", "charAt", "(I)C"⟩ : MethodName) len W (fun P a => a = #[.ref x, .int j] ∧ P.U.heap = h ∧ P.cells + 0 ≤ R.cells ∧ P.slots + 0 ≤ R.slots)
      (fun P _ v B => ∃ L, (v = some (.int (cs.getD i 0)) ∧ L = [] ∧ B.U.heap = h) ∧ B.locs = P.locs ++ L ∧ B.cells = P.cells + 0 ∧ B.slots = P.slots + 0) := by
  subst hj
  intro m meth c P g ig mk a X hg hsize hdg hW hn hp'
  obtain ⟨rfl, rfl, r1, r2⟩ := hp'
  have al : Z.vm.Alike P.U.vm := hZ.alike.trans X.warmed.alike
  obtain ⟨A, hx⟩ := txt_of wi al E V C K hc hb l2
  obtain ⟨v, B, X', ⟨⟨hv, hh⟩, hl, hk, hs⟩, st⟩ := ChN.pays x t A cs.length (fun j => cs.getD j 0) z fm i (tabChN_of (movedChN hZ hw)) hfr hlo m meth c P g ig mk _ X hg hsize hdg hW hn ⟨r1, r2, rfl, hx, hi, sta_is al S, hz, sta_is al F, rf⟩
  exact ⟨v, B, X', ⟨[], ⟨hv, rfl, hh⟩, hl, hk, hs⟩, st⟩
/-- what backV says of its String, as the contracts of this text ask it: cs's low bytes, coder 0 -/
theorem codOf {cs : List Int32} {n : Nat} (hn : cs.length = n) (hb : ∀ c ∈ cs, ¬ 255 < c) : CodA cs 0 (Int32.ofNat n) ((cs.map lo8).map Value.int) := Or.inl ⟨rfl, by rw [hn], by simp [List.map_map, Function.comp_def], hb⟩
end StrChars.Road
end Jvm.Pilot.@@N@@
namespace Jvm.Pilot.@@N@@
open Jvm Jvm.ClassFile Sem Op Lib Jvm.Free Jvm.Stand Jvm.LawKit Jvm.RoadKit Bundle Jvm.Pilot.@@N@@.Jvm.D
def okc (c : Int32) : Prop := (¬ c < 97 ∧ ¬ 122 < c) ∨ (c < 97 ∧ ¬ c < 65 ∧ ¬ 90 < c) ∨ (c < 97 ∧ c < 65 ∧ ¬ c < 48 ∧ ¬ 57 < c) ∨ c = 95 ∨ c = 45
instance (c : Int32) : Decidable (okc c) := by unfold okc; infer_instance
theorem own_m63 (x : Int32) : ∃ n : Fin 64, x &&& (63 : Int32) = Int32.ofNat n.val := by
  refine ⟨⟨(x &&& 63).toBitVec.toNat, ?_⟩, ?_⟩
  · simp only [Int32.toBitVec_and, BitVec.toNat_and]
    exact Nat.lt_succ_of_le Nat.and_le_right
  · apply Int32.toBitVec_inj.mp
    show _ = BitVec.ofNat 32 _
    rw [BitVec.ofNat_toNat]; simp
theorem own_m3 (x : Int32) : (x &&& (3 : Int32)) + 1 = 1 ∨ (x &&& (3 : Int32)) + 1 = 2 ∨ (x &&& (3 : Int32)) + 1 = 3 ∨ (x &&& (3 : Int32)) + 1 = 4 := by
  obtain ⟨n, hn⟩ : ∃ n : Fin 4, x &&& (3 : Int32) = Int32.ofNat n.val := by
    refine ⟨⟨(x &&& 3).toBitVec.toNat, ?_⟩, ?_⟩
    · simp only [Int32.toBitVec_and, BitVec.toNat_and]
      exact Nat.lt_succ_of_le Nat.and_le_right
    · apply Int32.toBitVec_inj.mp
      show _ = BitVec.ofNat 32 _
      rw [BitVec.ofNat_toNat]; simp
  rw [hn]; clear hn; revert n; decide
theorem own_pk1 (x : Int32) (h : x &&& (63 : Int32) < 26) : okc (nar .char ((97 : Int32) + (x &&& (63 : Int32))).toUInt32.toUInt16.toUInt32.toInt32) := by
  obtain ⟨n, hn⟩ := own_m63 x
  rw [hn] at h ⊢
  exact (by decide +kernel : ∀ n : Fin 64, Int32.ofNat n.val < 26 → okc (nar .char ((97 : Int32) + Int32.ofNat n.val).toUInt32.toUInt16.toUInt32.toInt32)) n h
theorem own_pk2 (x : Int32) (h1 : ¬ x &&& (63 : Int32) < 26) (h : x &&& (63 : Int32) < 52) : okc (nar .char ((65 : Int32) + ((x &&& (63 : Int32)) - (26 : Int32))).toUInt32.toUInt16.toUInt32.toInt32) := by
  obtain ⟨n, hn⟩ := own_m63 x
  rw [hn] at h1 h ⊢
  exact (by decide +kernel : ∀ n : Fin 64, ¬ Int32.ofNat n.val < 26 → Int32.ofNat n.val < 52 → okc (nar .char ((65 : Int32) + (Int32.ofNat n.val - (26 : Int32))).toUInt32.toUInt16.toUInt32.toInt32)) n h1 h
theorem own_pk3 (x : Int32) (h1 : ¬ x &&& (63 : Int32) < 52) (h : x &&& (63 : Int32) < 62) : okc (nar .char ((48 : Int32) + ((x &&& (63 : Int32)) - (52 : Int32))).toUInt32.toUInt16.toUInt32.toInt32) := by
  obtain ⟨n, hn⟩ := own_m63 x
  rw [hn] at h1 h ⊢
  exact (by decide +kernel : ∀ n : Fin 64, ¬ Int32.ofNat n.val < 52 → Int32.ofNat n.val < 62 → okc (nar .char ((48 : Int32) + (Int32.ofNat n.val - (52 : Int32))).toUInt32.toUInt16.toUInt32.toInt32)) n h1 h
theorem own_lat {c : Int32} (h : okc c) : ¬ c < 0 ∧ ¬ (255 : Int32) < c := by
  unfold okc at h
  simp only [Int32.lt_iff_toInt_lt, ← Int32.toInt_inj] at h ⊢
  simp only [show (97 : Int32).toInt = 97 from rfl, show (122 : Int32).toInt = 122 from rfl, show (65 : Int32).toInt = 65 from rfl, show (90 : Int32).toInt = 90 from rfl, show (48 : Int32).toInt = 48 from rfl, show (57 : Int32).toInt = 57 from rfl, show (95 : Int32).toInt = 95 from rfl, show (45 : Int32).toInt = 45 from rfl, show (0 : Int32).toInt = 0 from rfl, show (255 : Int32).toInt = 255 from rfl] at h ⊢
  omega
theorem own_up {cs : List Int32} (h : ∀ c ∈ cs, ¬ c < 0 ∧ ¬ (255 : Int32) < c) : ∀ c ∈ cs, ¬ c < 0 ∧ ¬ (65535 : Int32) < c := fun c hc => ⟨(h c hc).1, fun q => (h c hc).2 (by rw [Int32.lt_iff_toInt_lt] at q ⊢; have e1 : (65535 : Int32).toInt = 65535 := rfl; have e2 : (255 : Int32).toInt = 255 := rfl; omega)⟩
theorem own_nlt {i n : Nat} (h : i < n) (hn : n ≤ 4000) : Int32.ofNat i < Int32.ofNat n := by
  rw [Int32.lt_iff_toInt_lt, Int32.toInt_ofNat_of_lt (by omega), Int32.toInt_ofNat_of_lt (by omega)]
  omega
theorem own_nge {n : Nat} : ¬ Int32.ofNat n < Int32.ofNat n := fun h => Int32.lt_irrefl h
theorem own_one (i : Nat) : Int32.ofNat i + (1 : Int32) = Int32.ofNat (i + 1) := (Int32.ofNat_add i 1).symm
theorem own_n127 {n : Nat} (hn : n ≤ 127) : ¬ (127 : Int32) < Int32.ofNat n := by
  rw [Int32.lt_iff_toInt_lt, Int32.toInt_ofNat_of_lt (by omega)]
  have : (127 : Int32).toInt = 127 := rfl
  omega
theorem own_narc {z : Int32} (h : okc z) : nar .char z = z := by
  obtain ⟨h1, h2⟩ := own_lat h
  have e := c_i2c z
  have e0 : (0 : Int32).toInt = 0 := rfl
  have e255 : (255 : Int32).toInt = 255 := rfl
  rw [Int32.lt_iff_toInt_lt] at h1 h2
  apply Int32.toInt_inj.mp
  show (z.toUInt32.toUInt16.toUInt32.toInt32).toInt = z.toInt
  omega
theorem own_narC {z : Int32} (h1 : ¬ z < 0) (h2 : ¬ (65535 : Int32) < z) : nar .char z = z := by
  have e := c_i2c z
  have e0 : (0 : Int32).toInt = 0 := rfl
  have e255 : (65535 : Int32).toInt = 65535 := rfl
  rw [Int32.lt_iff_toInt_lt] at h1 h2
  apply Int32.toInt_inj.mp
  show (z.toUInt32.toUInt16.toUInt32.toInt32).toInt = z.toInt
  omega
theorem own_i2c (x : Int32) : ¬ x.toUInt32.toUInt16.toUInt32.toInt32 < 0 ∧ ¬ (65535 : Int32) < x.toUInt32.toUInt16.toUInt32.toInt32 := by
  have e := c_i2c x
  have e0 : (0 : Int32).toInt = 0 := rfl
  have e255 : (65535 : Int32).toInt = 65535 := rfl
  simp only [Int32.lt_iff_toInt_lt]
  omega
theorem own_narB (x : Int32) : x.toInt8.toInt32.toInt8.toInt32 = x.toInt8.toInt32 := by
  simp
theorem own_half {n : Nat} (hn : n ≤ 4000) : Int32.ofNat (2 * n) >>> ((1 : Int32) &&& 31) = Int32.ofNat n := by
  apply Int32.toInt_inj.mp
  rw [c_ishr (Int32.ofNat (2 * n)) 1 1 (by decide), Int32.toInt_ofNat_of_lt (by omega), Int32.toInt_ofNat_of_lt (by omega)]
  omega
theorem own_dbl {n : Nat} (hn : n ≤ 4000) : Int32.ofNat n <<< ((1 : Int32) &&& 31) = Int32.ofNat (2 * n) := by
  apply Int32.toInt_inj.mp
  have e := c_ishl (Int32.ofNat n) 1 1 (by decide)
  have r := rng32 (Int32.ofNat n <<< ((1 : Int32) &&& 31))
  rw [Int32.toInt_ofNat_of_lt (by omega)] at e
  rw [Int32.toInt_ofNat_of_lt (by omega)]
  omega
theorem own_nn {n : Nat} (hn : n ≤ 8000) : ¬ Int32.ofNat n < 0 := by
  rw [Int32.lt_iff_toInt_lt, Int32.toInt_ofNat_of_lt (by omega)]
  have : (0 : Int32).toInt = 0 := rfl
  omega
theorem own_lt8 {i n : Nat} (h : i < n) (hn : n ≤ 8000) : Int32.ofNat i < Int32.ofNat n := by
  rw [Int32.lt_iff_toInt_lt, Int32.toInt_ofNat_of_lt (by omega), Int32.toInt_ofNat_of_lt (by omega)]
  omega
theorem own_clamp {n : Nat} (hn : n ≤ 8000) : (Int32.ofNat n).toNatClampNeg = n := by
  simp only [Int32.toNatClampNeg, Int32.toInt_ofNat_of_lt (show n < 2 ^ 31 by omega)]
  rfl
def own_Str (Z : State) (h : Heap) (x : Addr) (cs : List Int32) : Prop := ∃ (t : Addr) (kb : ClassId) (cd N2 : Int32) (vs : List Value), Exa Z h x "java/lang/String" ∧ Fld Z h x "java/lang/String" "value" "[B" (.ref t) ∧ Fld Z h x "java/lang/String" "coder" "B" (.int cd) ∧ Arv Z h t kb .byte N2 vs (.int 0) ∧ StrChars.Road.CodA cs cd N2 vs
def own_QS (Z : State) (x : Addr) (cs : List Int32) (h : Heap) (n0 : Nat) (v : Option Value) (h' : Heap) (L : List Loc) : Prop := v = none ∧ Fr n0 L ∧ Keep h h' [x] ∧ own_Str Z h' x cs
theorem own_staK0 {Z : State} {h h' : Heap} {C n d : String} {v : Value} (S : Sta Z h C n d v) (K : Keep h h' []) : Sta Z h' C n d v := S.ext ⟨K.1, fun a c q => K.2.1 a c q nin0⟩
theorem own_staK {Z : State} {h h' : Heap} {C n d : String} {v : Value} {a : Addr} (S : Sta Z h C n d v) (K : Keep h h' [a]) (A : ∃ c : Cell, h[a]? = some c ∧ c.vm.isStatics = false) : Sta Z h' C n d v := by
  obtain ⟨cf, i, k, f, st, cell, h1, h2, h3, h4, h5, h6, h7⟩ := S
  obtain ⟨c, q1, q2⟩ := A
  have ne : st ≠ a := fun e => by
    subst e
    cases h5.symm.trans q1
    rw [h6] at q2; cases q2
  exact ⟨cf, i, k, f, st, cell, h1, h2, h3, h4, K.2.1 st cell h5 (ninS ne nin0), h6, h7⟩
theorem own_arvOld {Z : State} {h : Heap} {a : Addr} {k : ClassId} {ty : FieldType} {z : Int32} {vs : List Value} {d : Value} (V : Arv Z h a k ty z vs d) : ∃ c : Cell, h[a]? = some c ∧ c.vm.isStatics = false := by
  obtain ⟨c, A, -⟩ := V
  exact ⟨c, A.1, A.plain⟩
def own_Lat (Z : State) (h : Heap) (a : Addr) (cs : List Int32) : Prop := ∃ (t : Addr) (kb : ClassId), Exa Z h a "java/lang/String" ∧ Fld Z h a "java/lang/String" "value" "[B" (.ref t) ∧ Fld Z h a "java/lang/String" "coder" "B" (.int 0) ∧ Arv Z h t kb .byte (Int32.ofNat cs.length) ((cs.map (fun c : Int32 => c.toInt8.toInt32)).map Value.int) (.int 0)
theorem own_Lat.keep0 {Z : State} {h h' : Heap} {a : Addr} {cs : List Int32} (L : own_Lat Z h a cs) (K : Keep h h' []) : own_Lat Z h' a cs := by
  obtain ⟨t, kb, q1, q2, q3, q4⟩ := L
  exact ⟨t, kb, q1.keep K, q2.keep K nin0, q3.keep K nin0, q4.keep K nin0⟩
theorem own_lat0 {Z : State} {h : Heap} {a : Addr} (S : own_Str Z h a []) : own_Lat Z h a [] := by
  obtain ⟨t, kb, cd, N2, vs, q1, q2, q3, q4, q5⟩ := S
  rcases q5 with ⟨rfl, rfl, rfl, -⟩ | ⟨-, -, -, c, hc, -⟩
  · exact ⟨t, kb, q1, q2, q3, q4⟩
  · cases hc
def own_cs (n : Nat) (x y z : Int32) : List Int32 := [x, y, z].take n
theorem own_narL {z : Int32} (h : ¬ z < 0 ∧ ¬ (255 : Int32) < z) : nar .char z = z := by
  have q : ¬ (65535 : Int32) < z := (own_up (cs := [z]) (fun c hc => by cases List.mem_singleton.mp hc; exact h) z (by simp)).2
  exact own_narC h.1 q
theorem own_Lat.exa {Z : State} {h : Heap} {a : Addr} {cs : List Int32} (L : own_Lat Z h a cs) : Exa Z h a "java/lang/String" := by
  obtain ⟨t, kb, q, -⟩ := L
  exact q
theorem own_b255 (x : Int32) : ¬ ((x &&& (255 : Int32)).toUInt32.toUInt16.toUInt32.toInt32) < 0 ∧ ¬ (255 : Int32) < ((x &&& (255 : Int32)).toUInt32.toUInt16.toUInt32.toInt32) := by
  obtain ⟨n, hn⟩ : ∃ n : Fin 256, x &&& (255 : Int32) = Int32.ofNat n.val := by
    refine ⟨⟨(x &&& 255).toBitVec.toNat, ?_⟩, ?_⟩
    · simp only [Int32.toBitVec_and, BitVec.toNat_and]
      exact Nat.lt_succ_of_le Nat.and_le_right
    · apply Int32.toBitVec_inj.mp
      show _ = BitVec.ofNat 32 _
      rw [BitVec.ofNat_toNat]; simp
  rw [hn]; clear hn; revert n; decide +kernel
theorem own_m3n (x : Int32) : ∃ n : Nat, n ≤ 3 ∧ x &&& (3 : Int32) = Int32.ofNat n := by
  refine ⟨(x &&& 3).toBitVec.toNat, ?_, ?_⟩
  · simp only [Int32.toBitVec_and, BitVec.toNat_and]
    exact Nat.and_le_right
  · apply Int32.toBitVec_inj.mp
    show _ = BitVec.ofNat 32 _
    rw [BitVec.ofNat_toNat]; simp
theorem own_m3q (x : Int32) : x &&& (3 : Int32) = 0 ∨ x &&& (3 : Int32) = 1 ∨ x &&& (3 : Int32) = 2 ∨ x &&& (3 : Int32) = 3 := by
  obtain ⟨n, hn, hq⟩ := own_m3n x
  obtain rfl | rfl | rfl | rfl : n = 0 ∨ n = 1 ∨ n = 2 ∨ n = 3 := by omega
  · exact Or.inl hq
  · exact Or.inr (Or.inl hq)
  · exact Or.inr (Or.inr (Or.inl hq))
  · exact Or.inr (Or.inr (Or.inr hq))
theorem own_csb {n : Nat} {x y z : Int32} (hx : ¬ x < 0 ∧ ¬ (255 : Int32) < x) (hy : ¬ y < 0 ∧ ¬ (255 : Int32) < y) (hz : ¬ z < 0 ∧ ¬ (255 : Int32) < z) : ∀ c ∈ own_cs n x y z, ¬ c < 0 ∧ ¬ (255 : Int32) < c := by
  intro c hc
  have q := List.mem_of_mem_take hc
  simp only [List.mem_cons, List.not_mem_nil, or_false] at q
  rcases q with rfl | rfl | rfl
  · exact hx
  · exact hy
  · exact hz
theorem own_ninj {n m : Nat} (hn : n ≤ 3) (hm : m ≤ 3) (h : Int32.ofNat n = Int32.ofNat m) : n = m := by
  have q := congrArg Int32.toInt h
  rw [Int32.toInt_ofNat_of_lt (by omega), Int32.toInt_ofNat_of_lt (by omega)] at q
  omega
theorem own_cneq {n m : Nat} {x y z w : Int32} (hn : n ≤ 3) (hm : m ≤ 3) (h : ¬ Int32.ofNat n = Int32.ofNat m) : ¬ own_cs n x y z = own_cs m x y w := by
  intro q
  have r := congrArg List.length q
  unfold own_cs at r
  rw [List.length_take, List.length_take] at r
  have r' : min n 3 = min m 3 := r
  exact h (by rw [show n = m by omega])
theorem own_csl {n : Nat} {x y z : Int32} : (own_cs n x y z).length ≤ 4000 := by
  unfold own_cs
  rw [List.length_take]
  show min n 3 ≤ 4000
  omega
theorem own_hp2 {cs : List Int32} (h : ∀ c ∈ cs, ¬ c < 0 ∧ ¬ (255 : Int32) < c) : ∀ c ∈ ((95 : Int32) :: (58 : Int32) :: cs), ¬ c < 0 ∧ ¬ (255 : Int32) < c := by
  intro c hc
  rcases List.mem_cons.mp hc with rfl | hc
  · decide
  rcases List.mem_cons.mp hc with rfl | hc
  · decide
  exact h c hc
theorem drn_0 : decode jdk_31_method_11_code 0 = .ok (.aload_n 0, 1) := by decide +kernel
theorem drn_1 : decode jdk_31_method_11_code 1 = .ok (.ifnonnull 12, 3) := by decide +kernel
theorem drn_4 : decode jdk_31_method_11_code 4 = .ok (.new 84, 3) := by decide +kernel
theorem drn_7 : decode jdk_31_method_11_code 7 = .ok (.dup, 1) := by decide +kernel
theorem drn_8 : decode jdk_31_method_11_code 8 = .ok (.aload_n 1, 1) := by decide +kernel
theorem drn_9 : decode jdk_31_method_11_code 9 = .ok (.invokespecial 87, 3) := by decide +kernel
theorem drn_12 : decode jdk_31_method_11_code 12 = .ok (.athrow, 1) := by decide +kernel
theorem drn_13 : decode jdk_31_method_11_code 13 = .ok (.aload_n 0, 1) := by decide +kernel
theorem drn_14 : decode jdk_31_method_11_code 14 = .ok (.areturn, 1) := by decide +kernel
theorem pn_0 : plainName "java/util/Objects" = true := by first | (simp [plainName, overriddenIn]; done) | decide +kernel
theorem efrn (m : MethodId) (x0 : Addr) (x1 : Addr) : entryFrame m #[(.ref x0), (.ref x1)] 2 = mkF m 0 #[.val (.ref x0), .val (.ref x1)] [] := by first | (simp [entryFrame, mkF, argsToLocals, Value.category]; done) | rfl
set_option maxRecDepth 65536 in
set_option maxHeartbeats 40000000 in
theorem rm_rn (l : Launch) (Z : State) (a0 : Array Value) (hw : ∀ d ∈ tables_1, d.before a0 Z = true) (ws : List Jvm.Cond) (o1 : Addr) (m1 : Addr) (h0 : Heap) (n0 : Nat) (Z0 : n0 ≤ h0.size) :
    own_Met l Z ws (⟨"java/util/Objects", "requireNonNull", "(Ljava/lang/Object;Ljava/lang/String;)Ljava/lang/Object;"⟩ : MethodName) jdk_31_method_11_code 2 (some (.object "java/lang/Object")) ({ frames := 0, cells := 0, slots := 0, locals := 0 } : Room) #[(.ref o1), (.ref m1)] h0 (fun v h L => v = some (.ref o1) ∧ Fr n0 L ∧ h = h0) := by
  refine own_body (plainFor_of_name pn_0) ?_
  intro p e s m below meth c s₁ hx hby hml hret hlk hown hnm hZ X0 e0
  have hml : c.maxLocals = 2 := hml
  have hown : s.vm.findClass "java/util/Objects" = some m.cls := hown
  have N0 := Fr.nil n0
  refine own_cast (efrn m o1 m1) ?_
  show oG p e below _ s₁ (mkF m 0 #[.val (.ref o1), .val (.ref m1)] [])
  refine oS (fun t k => XS.aloadN X0.here hx rfl (hb hby drn_0) rfl rfl k) ?_
  show oG p e below _ s₁ (mkF m 1 #[.val (.ref o1), .val (.ref m1)] [(.ref o1)])
  refine oS (fun t k => XS.ifnonnullYes X0.here hx rfl (pc0 := 1) (pc' := 13) rfl (hb hby drn_1) rfl (by decide) (by decide) k) ?_
  show oG p e below _ s₁ (mkF m 13 #[.val (.ref o1), .val (.ref m1)] [])
  refine oS (fun t k => XS.aloadN X0.here hx rfl (hb hby drn_13) rfl rfl k) ?_
  show oG p e below _ s₁ (mkF m 14 #[.val (.ref o1), .val (.ref m1)] [(.ref o1)])
  refine own_retA X0 hx hlk hret rfl rfl (hb hby drn_14) ?_ (by decide) (by decide)
  rw [e0]
  exact ⟨rfl, N0, rfl⟩
theorem dti_0 : decode prog_15_method_1_code 0 = .ok (.aload_n 0, 1) := by decide +kernel
theorem dti_1 : decode prog_15_method_1_code 1 = .ok (.invokespecial 1, 3) := by decide +kernel
theorem dti_4 : decode prog_15_method_1_code 4 = .ok (.aload_n 0, 1) := by decide +kernel
theorem dti_5 : decode prog_15_method_1_code 5 = .ok (.aload_n 1, 1) := by decide +kernel
theorem dti_6 : decode prog_15_method_1_code 6 = .ok (.putfield 7, 3) := by decide +kernel
theorem dti_9 : decode prog_15_method_1_code 9 = .ok (.aload_n 0, 1) := by decide +kernel
theorem dti_10 : decode prog_15_method_1_code 10 = .ok (.aload_n 2, 1) := by decide +kernel
theorem dti_11 : decode prog_15_method_1_code 11 = .ok (.ldc 13, 2) := by decide +kernel
theorem dti_13 : decode prog_15_method_1_code 13 = .ok (.invokestatic 15, 3) := by decide +kernel
theorem dti_16 : decode prog_15_method_1_code 16 = .ok (.checkcast 21, 3) := by decide +kernel
theorem dti_19 : decode prog_15_method_1_code 19 = .ok (.putfield 23, 3) := by decide +kernel
theorem dti_22 : decode prog_15_method_1_code 22 = .ok (.aload_n 0, 1) := by decide +kernel
theorem dti_23 : decode prog_15_method_1_code 23 = .ok (.aload_n 3, 1) := by decide +kernel
theorem dti_24 : decode prog_15_method_1_code 24 = .ok (.putfield 26, 3) := by decide +kernel
theorem dti_27 : decode prog_15_method_1_code 27 = .ok (.aload_n 0, 1) := by decide +kernel
theorem dti_28 : decode prog_15_method_1_code 28 = .ok (.aload 4, 2) := by decide +kernel
theorem dti_30 : decode prog_15_method_1_code 30 = .ok (.putfield 29, 3) := by decide +kernel
theorem dti_33 : decode prog_15_method_1_code 33 = .ok (.return_, 1) := by decide +kernel
theorem pn_1 : plainName "com/example/rank3/rank3/graph/Term" = true := by first | (simp [plainName, overriddenIn]; done) | decide +kernel
theorem efti (m : MethodId) (x0 : Addr) (x1 : Addr) (x2 : Addr) : entryFrame m #[(.ref x0), (.ref x1), (.ref x2), .null, .null] 5 = mkF m 0 #[.val (.ref x0), .val (.ref x1), .val (.ref x2), .val .null, .val .null] [] := by first | (simp [entryFrame, mkF, argsToLocals, Value.category]; done) | rfl
theorem pd_0 : parseMethodDescriptor "(Ljava/lang/Object;Ljava/lang/String;)Ljava/lang/Object;" = some ⟨[(.object "java/lang/Object"), (.object "java/lang/String")], some (.object "java/lang/Object")⟩ := by decide +kernel
set_option maxRecDepth 65536 in
set_option maxHeartbeats 40000000 in
theorem rm_ti (l : Launch) (Z : State) (a0 : Array Value) (hw : ∀ d ∈ tables_1, d.before a0 Z = true) (ws : List Jvm.Cond) (t1 : Addr) (k1 : Addr) (s1 : Addr) (h0 : Heap) (n0 : Nat) (Z0 : n0 ≤ h0.size) (hE : EW Z a0 consts_1) (wS : ∀ a ∈ Bundle.stringAtoms, a.before a0 Z = true) (E1 : Exa Z h0 t1 "com/example/rank3/rank3/graph/Term") (F1 : Fld Z h0 t1 "com/example/rank3/rank3/graph/Term" "kind" "Lcom/example/rank3/rank3/graph/Term$Kind;" .null) (F2 : Fld Z h0 t1 "com/example/rank3/rank3/graph/Term" "value" "Ljava/lang/String;" .null) (F3 : Fld Z h0 t1 "com/example/rank3/rank3/graph/Term" "datatype" "Ljava/lang/String;" .null) (F4 : Fld Z h0 t1 "com/example/rank3/rank3/graph/Term" "language" "Ljava/lang/String;" .null) (gt : n0 ≤ t1) (Es : Exa Z h0 s1 "java/lang/String") :
    own_MetH l Z consts_1 ws (⟨"com/example/rank3/rank3/graph/Term", "<init>", "(Lcom/example/rank3/rank3/graph/Term$Kind;Ljava/lang/String;Ljava/lang/String;Ljava/lang/String;)V"⟩ : MethodName) prog_15_method_1_code 5 none ({ frames := 1, cells := 2, slots := 24, locals := 16 } : Room) #[(.ref t1), (.ref k1), (.ref s1), .null, .null] h0 (fun v h L => v = none ∧ Fr n0 L ∧ Keep h0 h [t1] ∧ Exa Z h t1 "com/example/rank3/rank3/graph/Term" ∧ Fld Z h t1 "com/example/rank3/rank3/graph/Term" "kind" "Lcom/example/rank3/rank3/graph/Term$Kind;" (.ref k1) ∧ Fld Z h t1 "com/example/rank3/rank3/graph/Term" "value" "Ljava/lang/String;" (.ref s1) ∧ Fld Z h t1 "com/example/rank3/rank3/graph/Term" "datatype" "Ljava/lang/String;" .null ∧ Fld Z h t1 "com/example/rank3/rank3/graph/Term" "language" "Ljava/lang/String;" .null) (fun _ => True) := by
  refine own_bodyH (plainFor_of_name pn_1) hE ?_
  intro p e s m below meth c s₁ hx hby hml hret hlk hown hnm X0 e0 K0 hPv
  have hZ : Z.Warmed39 s.vm := K0.1
  have hml : c.maxLocals = 5 := hml
  have hown : s.vm.findClass "com/example/rank3/rank3/graph/Term" = some m.cls := hown
  have N0 := Fr.nil n0
  refine own_cast (efti m t1 k1 s1) ?_
  show oG p e below _ s₁ (mkF m 0 #[.val (.ref t1), .val (.ref k1), .val (.ref s1), .val .null, .val .null] [])
  refine oS (fun t k => XS.aloadN X0.here hx rfl (hb hby dti_0) rfl rfl k) ?_
  show oG p e below _ s₁ (mkF m 1 #[.val (.ref t1), .val (.ref k1), .val (.ref s1), .val .null, .val .null] [(.ref t1)])
  obtain ⟨T1, X1, e1, st1⟩ := initO X0 hx hZ hown (oW hw 38 rfl) (oW hw 16 rfl) (oW hw 17 rfl) e0 (g := (mkF m 1 #[.val (.ref t1), .val (.ref k1), .val (.ref s1), .val .null, .val .null] [(.ref t1)])) rfl (by rw [hml]; rfl) rfl (hb hby dti_1) (by decide) (W := 0) (by show 2 * 0 + _ ≤ _; exact Nat.le_of_eq rfl) (by decide)
  refine oS st1 ?_
  show oG p e below _ T1 (mkF m 4 #[.val (.ref t1), .val (.ref k1), .val (.ref s1), .val .null, .val .null] [])
  refine oS (fun t k => XS.aloadN X1.here hx rfl (hb hby dti_4) rfl rfl k) ?_
  refine oS (fun t k => XS.aloadN X1.here hx rfl (hb hby dti_5) rfl rfl k) ?_
  show oG p e below _ T1 (mkF m 6 #[.val (.ref t1), .val (.ref k1), .val (.ref s1), .val .null, .val .null] [(.ref k1), (.ref t1)])
  obtain ⟨T6, h6, X6, e6, W6, st6⟩ := putF X1 hx hZ hown (host := "") (Or.inl (oW hw 39 rfl)) Via.refl e1 F1 E1 (Or.inr ⟨(oW hw 40 rfl), rfl, hnm⟩) (oW hw 31 rfl) (ty := (.object "com/example/rank3/rank3/graph/Term$Kind")) (by decide) rfl rfl (g := (mkF m 6 #[.val (.ref t1), .val (.ref k1), .val (.ref s1), .val .null, .val .null] [(.ref k1), (.ref t1)])) rfl rfl (hb hby dti_6)
  refine oS st6 ?_
  have N6 := Fr.snoc X6 N0 gt
  have E6_o := E1.wr W6
  have F6_kind := F1.same W6
  have F6_value := F2.other W6 (Or.inr (slot_ne (Or.inr (oW hw 48 rfl)) (Or.inr (oW hw 40 rfl)) (by decide) (t := (.object "java/lang/String")) (t' := (.object "com/example/rank3/rank3/graph/Term$Kind")) (by decide) (by decide)))
  have F6_datatype := F3.other W6 (Or.inr (slot_ne (Or.inr (oW hw 50 rfl)) (Or.inr (oW hw 40 rfl)) (by decide) (t := (.object "java/lang/String")) (t' := (.object "com/example/rank3/rank3/graph/Term$Kind")) (by decide) (by decide)))
  have F6_language := F4.other W6 (Or.inr (slot_ne (Or.inr (oW hw 52 rfl)) (Or.inr (oW hw 40 rfl)) (by decide) (t := (.object "java/lang/String")) (t' := (.object "com/example/rank3/rank3/graph/Term$Kind")) (by decide) (by decide)))
  show oG p e below _ T6 (mkF m 9 #[.val (.ref t1), .val (.ref k1), .val (.ref s1), .val .null, .val .null] [])
  have K6 := K0.wr W6 (Safe.exa K0.1.alike E1 (by decide) (by decide))
  have KP6 : Keep h0 h6 [t1] := (Keep.refl h0 [t1]).wr W6 (Or.inl (List.mem_of_getElem? (i := 0) rfl))
  refine oS (fun t k => XS.aloadN X6.here hx rfl (hb hby dti_9) rfl rfl k) ?_
  refine oS (fun t k => XS.aloadN X6.here hx rfl (hb hby dti_10) rfl rfl k) ?_
  show oG p e below _ T6 (mkF m 11 #[.val (.ref t1), .val (.ref k1), .val (.ref s1), .val .null, .val .null] [(.ref s1), (.ref t1)])
  refine own_ldc X6 hx K6 (text := "value") hown (oW hw 41 rfl) wS e6 (by decide) (vs := [(.int 118), (.int 97), (.int 108), (.int 117), (.int 101)]) (z := (5 : Int32)) ⟨by decide, by decide⟩ (by decide) rfl (g := (mkF m 11 #[.val (.ref t1), .val (.ref k1), .val (.ref s1), .val .null, .val .null] [(.ref s1), (.ref t1)])) rfl (hb hby dti_11) (n := 20) (by decide) (by decide) (by decide) (by decide) (fun a11 T11 b11 kb11 X11 E11 K11 hown11 R11 LE11 LC11 LV11 LA11 SF11 => ?_)
  show oG p e below _ T11 (mkF m 13 #[.val (.ref t1), .val (.ref k1), .val (.ref s1), .val .null, .val .null] [(.ref a11), (.ref s1), (.ref t1)])
  have KP11 := KP6.ext E11
  have Es11 := (Es.wr W6).ext E11
  have Z11 : n0 ≤ T11.heap.size := Nat.le_trans Z0 KP11.1
  refine own_callS X11 hx K11.1 (y := (⟨"java/util/Objects", "requireNonNull", "(Ljava/lang/Object;Ljava/lang/String;)Ljava/lang/Object;"⟩ : MethodName)) (W := 1) (kc := 0) (ks := 0) hown11 (oW hw 42 rfl) (oW hw 43 rfl) (oW hw 44 rfl) (oW hw 45 rfl) (own_back (W := 1) (rm_rn l Z a0 hw [] s1 a11 T11.heap n0 Z11) K11.1 (oW hw 45 rfl) (oW hw 44 rfl) (by decide) (by decide)) (by decide) (g := (mkF m 13 #[.val (.ref t1), .val (.ref k1), .val (.ref s1), .val .null, .val .null] [(.ref a11), (.ref s1), (.ref t1)])) rfl (by rw [hml]; rfl) (argsL := [(.ref s1), (.ref a11)]) (rest := [(.ref t1)]) (lenOf pd_0 rfl) rfl (by show 2 * 0 + _ ≤ _; exact Nat.le_of_eq rfl) (hb hby dti_13) rfl rfl (by decide) (by decide) (fun v13 T13 L13 X13 hQ13 => ?_)
  obtain ⟨rfl, M13, e13⟩ := hQ13
  have N13 := Fr.app N6 M13
  show oG p e below _ T13 (mkF m 16 #[.val (.ref t1), .val (.ref k1), .val (.ref s1), .val .null, .val .null] [(.ref s1), (.ref t1)])
  obtain ⟨T16, X16, e16, st16⟩ := castY X13 hx K11.1 hown11 (oW hw 46 rfl) e13 (Ins.self Es11) (g := (mkF m 16 #[.val (.ref t1), .val (.ref k1), .val (.ref s1), .val .null, .val .null] [(.ref s1), (.ref t1)])) rfl rfl (hb hby dti_16)
  refine oS st16 ?_
  show oG p e below _ T16 (mkF m 19 #[.val (.ref t1), .val (.ref k1), .val (.ref s1), .val .null, .val .null] [(.ref s1), (.ref t1)])
  obtain ⟨T19, h19, X19, e19, W19, st19⟩ := putF X16 hx K11.1 hown11 (host := "") (Or.inl (oW hw 47 rfl)) Via.refl e16 (F6_value.ext E11) (E6_o.ext E11) (Or.inr ⟨(oW hw 48 rfl), rfl, hnm⟩) (oW hw 31 rfl) (ty := (.object "java/lang/String")) (by decide) rfl rfl (g := (mkF m 19 #[.val (.ref t1), .val (.ref k1), .val (.ref s1), .val .null, .val .null] [(.ref s1), (.ref t1)])) rfl rfl (hb hby dti_19)
  refine oS st19 ?_
  have N19 := Fr.snoc X19 N13 gt
  have E19_o := (E6_o.ext E11).wr W19
  have F19_kind := (F6_kind.ext E11).other W19 (Or.inr (slot_ne (Or.inr (oW hw 40 rfl)) (Or.inr (oW hw 48 rfl)) (by decide) (t := (.object "com/example/rank3/rank3/graph/Term$Kind")) (t' := (.object "java/lang/String")) (by decide) (by decide)))
  have F19_value := (F6_value.ext E11).same W19
  have F19_datatype := (F6_datatype.ext E11).other W19 (Or.inr (slot_ne (Or.inr (oW hw 50 rfl)) (Or.inr (oW hw 48 rfl)) (by decide) (t := (.object "java/lang/String")) (t' := (.object "java/lang/String")) (by decide) (by decide)))
  have F19_language := (F6_language.ext E11).other W19 (Or.inr (slot_ne (Or.inr (oW hw 52 rfl)) (Or.inr (oW hw 48 rfl)) (by decide) (t := (.object "java/lang/String")) (t' := (.object "java/lang/String")) (by decide) (by decide)))
  show oG p e below _ T19 (mkF m 22 #[.val (.ref t1), .val (.ref k1), .val (.ref s1), .val .null, .val .null] [])
  have K19 := K11.wr W19 (Safe.exa K11.1.alike (E6_o.ext E11) (by decide) (by decide))
  have KP19 : Keep h0 h19 [t1] := KP11.wr W19 (Or.inl (List.mem_of_getElem? (i := 0) rfl))
  refine oS (fun t k => XS.aloadN X19.here hx rfl (hb hby dti_22) rfl rfl k) ?_
  refine oS (fun t k => XS.aloadN X19.here hx rfl (hb hby dti_23) rfl rfl k) ?_
  show oG p e below _ T19 (mkF m 24 #[.val (.ref t1), .val (.ref k1), .val (.ref s1), .val .null, .val .null] [.null, (.ref t1)])
  obtain ⟨T24, h24, X24, e24, W24, st24⟩ := putF X19 hx K11.1 hown11 (host := "") (Or.inl (oW hw 49 rfl)) Via.refl e19 F19_datatype E19_o (Or.inr ⟨(oW hw 50 rfl), rfl, hnm⟩) (oW hw 31 rfl) (ty := (.object "java/lang/String")) (by decide) rfl rfl (g := (mkF m 24 #[.val (.ref t1), .val (.ref k1), .val (.ref s1), .val .null, .val .null] [.null, (.ref t1)])) rfl rfl (hb hby dti_24)
  refine oS st24 ?_
  have N24 := Fr.snoc X24 N19 gt
  have E24_o := E19_o.wr W24
  have F24_kind := F19_kind.other W24 (Or.inr (slot_ne (Or.inr (oW hw 40 rfl)) (Or.inr (oW hw 50 rfl)) (by decide) (t := (.object "com/example/rank3/rank3/graph/Term$Kind")) (t' := (.object "java/lang/String")) (by decide) (by decide)))
  have F24_value := F19_value.other W24 (Or.inr (slot_ne (Or.inr (oW hw 48 rfl)) (Or.inr (oW hw 50 rfl)) (by decide) (t := (.object "java/lang/String")) (t' := (.object "java/lang/String")) (by decide) (by decide)))
  have F24_datatype := F19_datatype.same W24
  have F24_language := F19_language.other W24 (Or.inr (slot_ne (Or.inr (oW hw 52 rfl)) (Or.inr (oW hw 50 rfl)) (by decide) (t := (.object "java/lang/String")) (t' := (.object "java/lang/String")) (by decide) (by decide)))
  show oG p e below _ T24 (mkF m 27 #[.val (.ref t1), .val (.ref k1), .val (.ref s1), .val .null, .val .null] [])
  have K24 := K19.wr W24 (Safe.exa K19.1.alike E19_o (by decide) (by decide))
  have KP24 : Keep h0 h24 [t1] := KP19.wr W24 (Or.inl (List.mem_of_getElem? (i := 0) rfl))
  refine oS (fun t k => XS.aloadN X24.here hx rfl (hb hby dti_27) rfl rfl k) ?_
  refine oS (fun t k => XS.aload X24.here hx rfl (hb hby dti_28) rfl rfl k) ?_
  show oG p e below _ T24 (mkF m 30 #[.val (.ref t1), .val (.ref k1), .val (.ref s1), .val .null, .val .null] [.null, (.ref t1)])
  obtain ⟨T30, h30, X30, e30, W30, st30⟩ := putF X24 hx K11.1 hown11 (host := "") (Or.inl (oW hw 51 rfl)) Via.refl e24 F24_language E24_o (Or.inr ⟨(oW hw 52 rfl), rfl, hnm⟩) (oW hw 31 rfl) (ty := (.object "java/lang/String")) (by decide) rfl rfl (g := (mkF m 30 #[.val (.ref t1), .val (.ref k1), .val (.ref s1), .val .null, .val .null] [.null, (.ref t1)])) rfl rfl (hb hby dti_30)
  refine oS st30 ?_
  have N30 := Fr.snoc X30 N24 gt
  have E30_o := E24_o.wr W30
  have F30_kind := F24_kind.other W30 (Or.inr (slot_ne (Or.inr (oW hw 40 rfl)) (Or.inr (oW hw 52 rfl)) (by decide) (t := (.object "com/example/rank3/rank3/graph/Term$Kind")) (t' := (.object "java/lang/String")) (by decide) (by decide)))
  have F30_value := F24_value.other W30 (Or.inr (slot_ne (Or.inr (oW hw 48 rfl)) (Or.inr (oW hw 52 rfl)) (by decide) (t := (.object "java/lang/String")) (t' := (.object "java/lang/String")) (by decide) (by decide)))
  have F30_datatype := F24_datatype.other W30 (Or.inr (slot_ne (Or.inr (oW hw 50 rfl)) (Or.inr (oW hw 52 rfl)) (by decide) (t := (.object "java/lang/String")) (t' := (.object "java/lang/String")) (by decide) (by decide)))
  have F30_language := F24_language.same W30
  show oG p e below _ T30 (mkF m 33 #[.val (.ref t1), .val (.ref k1), .val (.ref s1), .val .null, .val .null] [])
  have K30 := K24.wr W30 (Safe.exa K24.1.alike E24_o (by decide) (by decide))
  have KP30 : Keep h0 h30 [t1] := KP24.wr W30 (Or.inl (List.mem_of_getElem? (i := 0) rfl))
  refine own_retHV X30 K30 e30 hx hlk hret (hb hby dti_33) ?_ (by decide) (by decide)
  exact ⟨rfl, N30, KP30, E30_o, F30_kind, F30_value, F30_datatype, F30_language⟩
theorem dblankNode_0 : decode prog_15_method_3_code 0 = .ok (.new 8, 3) := by decide +kernel
theorem dblankNode_3 : decode prog_15_method_3_code 3 = .ok (.dup, 1) := by decide +kernel
theorem dblankNode_4 : decode prog_15_method_3_code 4 = .ok (.getstatic 40, 3) := by decide +kernel
theorem dblankNode_7 : decode prog_15_method_3_code 7 = .ok (.aload_n 0, 1) := by decide +kernel
theorem dblankNode_8 : decode prog_15_method_3_code 8 = .ok (.aconst_null, 1) := by decide +kernel
theorem dblankNode_9 : decode prog_15_method_3_code 9 = .ok (.aconst_null, 1) := by decide +kernel
theorem dblankNode_10 : decode prog_15_method_3_code 10 = .ok (.invokespecial 37, 3) := by decide +kernel
theorem dblankNode_13 : decode prog_15_method_3_code 13 = .ok (.areturn, 1) := by decide +kernel
theorem efblankNode (m : MethodId) (x0 : Addr) : entryFrame m #[(.ref x0)] 1 = mkF m 0 #[.val (.ref x0)] [] := by first | (simp [entryFrame, mkF, argsToLocals, Value.category]; done) | rfl
theorem pd_1 : parseMethodDescriptor "(Lcom/example/rank3/rank3/graph/Term$Kind;Ljava/lang/String;Ljava/lang/String;Ljava/lang/String;)V" = some ⟨[(.object "com/example/rank3/rank3/graph/Term$Kind"), (.object "java/lang/String"), (.object "java/lang/String"), (.object "java/lang/String")], none⟩ := by decide +kernel
set_option maxRecDepth 65536 in
set_option maxHeartbeats 40000000 in
theorem rm_blankNode (l : Launch) (Z : State) (a0 : Array Value) (hw : ∀ d ∈ tables_1, d.before a0 Z = true) (ws : List Jvm.Cond) (s1 : Addr) (k1 : Addr) (h0 : Heap) (n0 : Nat) (Z0 : n0 ≤ h0.size) (hE : EW Z a0 consts_1) (wS : ∀ a ∈ Bundle.stringAtoms, a.before a0 Z = true) (SB : Sta Z h0 "com/example/rank3/rank3/graph/Term$Kind" "BLANK_NODE" "Lcom/example/rank3/rank3/graph/Term$Kind;" (.ref k1)) (Es : Exa Z h0 s1 "java/lang/String") :
    own_MetH l Z consts_1 ws (⟨"com/example/rank3/rank3/graph/Term", "blankNode", "(Ljava/lang/String;)Lcom/example/rank3/rank3/graph/Term;"⟩ : MethodName) prog_15_method_3_code 1 (some (.object "com/example/rank3/rank3/graph/Term")) ({ frames := 2, cells := 3, slots := 28, locals := 40 } : Room) #[(.ref s1)] h0 (fun v h L => ∃ t : Addr, v = some (.ref t) ∧ Fr n0 L ∧ Keep h0 h [] ∧ n0 ≤ t ∧ h0.size ≤ t ∧ Exa Z h t "com/example/rank3/rank3/graph/Term" ∧ Fld Z h t "com/example/rank3/rank3/graph/Term" "kind" "Lcom/example/rank3/rank3/graph/Term$Kind;" (.ref k1) ∧ Fld Z h t "com/example/rank3/rank3/graph/Term" "value" "Ljava/lang/String;" (.ref s1) ∧ Fld Z h t "com/example/rank3/rank3/graph/Term" "datatype" "Ljava/lang/String;" .null ∧ Fld Z h t "com/example/rank3/rank3/graph/Term" "language" "Ljava/lang/String;" .null) (fun _ => True) := by
  refine own_bodyH (plainFor_of_name pn_1) hE ?_
  intro p e s m below meth c s₁ hx hby hml hret hlk hown hnm X0 e0 K0 hPv
  have hZ : Z.Warmed39 s.vm := K0.1
  have hml : c.maxLocals = 1 := hml
  have hown : s.vm.findClass "com/example/rank3/rank3/graph/Term" = some m.cls := hown
  have N0 := Fr.nil n0
  refine own_cast (efblankNode m s1) ?_
  show oG p e below _ s₁ (mkF m 0 #[.val (.ref s1)] [])
  obtain ⟨Tq, hq, Xq, eq, Eq, Aq, Dq, -, stq⟩ := newO X0 hx hZ hown (oW hw 30 rfl) (oW hw 31 rfl) (oW hw 28 rfl) e0 (g := (mkF m 0 #[.val (.ref s1)] [])) rfl (hb hby dblankNode_0) (by decide) (by decide)
  obtain ⟨bq, gq⟩ : ∃ z, z = h0.size := ⟨_, rfl⟩
  rw [← gq] at Aq Dq stq
  have Fq_kind : Fld Z hq bq "com/example/rank3/rank3/graph/Term" "kind" "Lcom/example/rank3/rank3/graph/Term$Kind;" .null := Dq (Or.inr (oW hw 40 rfl)) (ty := (.object "com/example/rank3/rank3/graph/Term$Kind")) (by decide)
  have Fq_value : Fld Z hq bq "com/example/rank3/rank3/graph/Term" "value" "Ljava/lang/String;" .null := Dq (Or.inr (oW hw 48 rfl)) (ty := (.object "java/lang/String")) (by decide)
  have Fq_datatype : Fld Z hq bq "com/example/rank3/rank3/graph/Term" "datatype" "Ljava/lang/String;" .null := Dq (Or.inr (oW hw 50 rfl)) (ty := (.object "java/lang/String")) (by decide)
  have Fq_language : Fld Z hq bq "com/example/rank3/rank3/graph/Term" "language" "Ljava/lang/String;" .null := Dq (Or.inr (oW hw 52 rfl)) (ty := (.object "java/lang/String")) (by decide)
  refine oS stq ?_
  show oG p e below _ Tq (mkF m 3 #[.val (.ref s1)] [(.ref bq)])
  have Kq := K0.ext Eq
  have Zq : n0 ≤ hq.size := Nat.le_trans Z0 Eq.1
  have gt : n0 ≤ bq := Nat.le_trans Z0 (Nat.le_of_eq gq.symm)
  refine oS (fun t k => XS.dup Xq.here hx rfl (hb hby dblankNode_3) rfl rfl k) ?_
  show oG p e below _ Tq (mkF m 4 #[.val (.ref s1)] [(.ref bq), (.ref bq)])
  obtain ⟨T4, X4, e4, st4⟩ := getS2 Xq hx hZ hown (host := "") (Or.inl (oW hw 32 rfl)) Via.refl eq (SB.ext Eq) (g := (mkF m 4 #[.val (.ref s1)] [(.ref bq), (.ref bq)])) rfl (hb hby dblankNode_4)
  refine oS st4 ?_
  show oG p e below _ T4 (mkF m 7 #[.val (.ref s1)] [(.ref k1), (.ref bq), (.ref bq)])
  refine oS (fun t k => XS.aloadN X4.here hx rfl (hb hby dblankNode_7) rfl rfl k) ?_
  refine oS (fun t k => XS.aconstNull X4.here hx rfl (hb hby dblankNode_8) k) ?_
  refine oS (fun t k => XS.aconstNull X4.here hx rfl (hb hby dblankNode_9) k) ?_
  show oG p e below _ T4 (mkF m 10 #[.val (.ref s1)] [.null, .null, (.ref s1), (.ref k1), (.ref bq), (.ref bq)])
  refine own_callIH X4 hx Kq (y := (⟨"com/example/rank3/rank3/graph/Term", "<init>", "(Lcom/example/rank3/rank3/graph/Term$Kind;Ljava/lang/String;Ljava/lang/String;Ljava/lang/String;)V"⟩ : MethodName)) (W := 1) (kc := 2) (ks := 24) rfl hown (oW hw 35 rfl) (oW hw 36 rfl) (oW hw 37 rfl) (own_backH (W := 1) (rm_ti l Z a0 hw [] bq k1 s1 hq n0 Zq hE wS Aq Fq_kind Fq_value Fq_datatype Fq_language gt (Es.ext Eq)) Kq (fun _ _ => trivial) (oW hw 37 rfl) (oW hw 28 rfl) (by decide) (by decide)) (by decide) (g := (mkF m 10 #[.val (.ref s1)] [.null, .null, (.ref s1), (.ref k1), (.ref bq), (.ref bq)])) rfl (by rw [hml]; rfl) (a := bq) (argsL := [(.ref k1), (.ref s1), .null, .null]) (rest := [(.ref bq)]) (lenOf pd_1 rfl) rfl (by show 2 * 0 + _ ≤ _; exact Nat.le_of_eq rfl) (hb hby dblankNode_10) rfl e4 (by decide) (by decide) (fun v10 T10 L10 X10 hQ10 K10 hown10 R10 => ?_)
  obtain ⟨rfl, M10, KP, q⟩ := hQ10
  show oG p e below _ T10 (mkF m 13 #[.val (.ref s1)] [(.ref bq)])
  refine own_retHA X10 K10 rfl hx hlk hret rfl rfl (hb hby dblankNode_13) ?_ (by decide) (by decide)
  exact ⟨bq, rfl, Fr.app N0 M10, ((Keep.refl h0 []).ext Eq).trans KP (allS (Or.inr (Nat.le_of_eq gq.symm)) all0), gt, Nat.le_of_eq gq.symm, q⟩
theorem diri_0 : decode prog_15_method_2_code 0 = .ok (.new 8, 3) := by decide +kernel
theorem diri_3 : decode prog_15_method_2_code 3 = .ok (.dup, 1) := by decide +kernel
theorem diri_4 : decode prog_15_method_2_code 4 = .ok (.getstatic 32, 3) := by decide +kernel
theorem diri_7 : decode prog_15_method_2_code 7 = .ok (.aload_n 0, 1) := by decide +kernel
theorem diri_8 : decode prog_15_method_2_code 8 = .ok (.aconst_null, 1) := by decide +kernel
theorem diri_9 : decode prog_15_method_2_code 9 = .ok (.aconst_null, 1) := by decide +kernel
theorem diri_10 : decode prog_15_method_2_code 10 = .ok (.invokespecial 37, 3) := by decide +kernel
theorem diri_13 : decode prog_15_method_2_code 13 = .ok (.areturn, 1) := by decide +kernel
theorem efiri (m : MethodId) (x0 : Addr) : entryFrame m #[(.ref x0)] 1 = mkF m 0 #[.val (.ref x0)] [] := by first | (simp [entryFrame, mkF, argsToLocals, Value.category]; done) | rfl
set_option maxRecDepth 65536 in
set_option maxHeartbeats 40000000 in
theorem rm_iri (l : Launch) (Z : State) (a0 : Array Value) (hw : ∀ d ∈ tables_1, d.before a0 Z = true) (ws : List Jvm.Cond) (s1 : Addr) (k1 : Addr) (h0 : Heap) (n0 : Nat) (Z0 : n0 ≤ h0.size) (hE : EW Z a0 consts_1) (wS : ∀ a ∈ Bundle.stringAtoms, a.before a0 Z = true) (SB : Sta Z h0 "com/example/rank3/rank3/graph/Term$Kind" "IRI" "Lcom/example/rank3/rank3/graph/Term$Kind;" (.ref k1)) (Es : Exa Z h0 s1 "java/lang/String") :
    own_MetH l Z consts_1 ws (⟨"com/example/rank3/rank3/graph/Term", "iri", "(Ljava/lang/String;)Lcom/example/rank3/rank3/graph/Term;"⟩ : MethodName) prog_15_method_2_code 1 (some (.object "com/example/rank3/rank3/graph/Term")) ({ frames := 2, cells := 3, slots := 28, locals := 40 } : Room) #[(.ref s1)] h0 (fun v h L => ∃ t : Addr, v = some (.ref t) ∧ Fr n0 L ∧ Keep h0 h [] ∧ n0 ≤ t ∧ h0.size ≤ t ∧ Exa Z h t "com/example/rank3/rank3/graph/Term" ∧ Fld Z h t "com/example/rank3/rank3/graph/Term" "kind" "Lcom/example/rank3/rank3/graph/Term$Kind;" (.ref k1) ∧ Fld Z h t "com/example/rank3/rank3/graph/Term" "value" "Ljava/lang/String;" (.ref s1) ∧ Fld Z h t "com/example/rank3/rank3/graph/Term" "datatype" "Ljava/lang/String;" .null ∧ Fld Z h t "com/example/rank3/rank3/graph/Term" "language" "Ljava/lang/String;" .null) (fun _ => True) := by
  refine own_bodyH (plainFor_of_name pn_1) hE ?_
  intro p e s m below meth c s₁ hx hby hml hret hlk hown hnm X0 e0 K0 hPv
  have hZ : Z.Warmed39 s.vm := K0.1
  have hml : c.maxLocals = 1 := hml
  have hown : s.vm.findClass "com/example/rank3/rank3/graph/Term" = some m.cls := hown
  have N0 := Fr.nil n0
  refine own_cast (efiri m s1) ?_
  show oG p e below _ s₁ (mkF m 0 #[.val (.ref s1)] [])
  obtain ⟨Tq, hq, Xq, eq, Eq, Aq, Dq, -, stq⟩ := newO X0 hx hZ hown (oW hw 30 rfl) (oW hw 31 rfl) (oW hw 28 rfl) e0 (g := (mkF m 0 #[.val (.ref s1)] [])) rfl (hb hby diri_0) (by decide) (by decide)
  obtain ⟨bq, gq⟩ : ∃ z, z = h0.size := ⟨_, rfl⟩
  rw [← gq] at Aq Dq stq
  have Fq_kind : Fld Z hq bq "com/example/rank3/rank3/graph/Term" "kind" "Lcom/example/rank3/rank3/graph/Term$Kind;" .null := Dq (Or.inr (oW hw 40 rfl)) (ty := (.object "com/example/rank3/rank3/graph/Term$Kind")) (by decide)
  have Fq_value : Fld Z hq bq "com/example/rank3/rank3/graph/Term" "value" "Ljava/lang/String;" .null := Dq (Or.inr (oW hw 48 rfl)) (ty := (.object "java/lang/String")) (by decide)
  have Fq_datatype : Fld Z hq bq "com/example/rank3/rank3/graph/Term" "datatype" "Ljava/lang/String;" .null := Dq (Or.inr (oW hw 50 rfl)) (ty := (.object "java/lang/String")) (by decide)
  have Fq_language : Fld Z hq bq "com/example/rank3/rank3/graph/Term" "language" "Ljava/lang/String;" .null := Dq (Or.inr (oW hw 52 rfl)) (ty := (.object "java/lang/String")) (by decide)
  refine oS stq ?_
  show oG p e below _ Tq (mkF m 3 #[.val (.ref s1)] [(.ref bq)])
  have Kq := K0.ext Eq
  have Zq : n0 ≤ hq.size := Nat.le_trans Z0 Eq.1
  have gt : n0 ≤ bq := Nat.le_trans Z0 (Nat.le_of_eq gq.symm)
  refine oS (fun t k => XS.dup Xq.here hx rfl (hb hby diri_3) rfl rfl k) ?_
  show oG p e below _ Tq (mkF m 4 #[.val (.ref s1)] [(.ref bq), (.ref bq)])
  obtain ⟨T4, X4, e4, st4⟩ := getS2 Xq hx hZ hown (host := "") (Or.inl (oW hw 236 rfl)) Via.refl eq (SB.ext Eq) (g := (mkF m 4 #[.val (.ref s1)] [(.ref bq), (.ref bq)])) rfl (hb hby diri_4)
  refine oS st4 ?_
  show oG p e below _ T4 (mkF m 7 #[.val (.ref s1)] [(.ref k1), (.ref bq), (.ref bq)])
  refine oS (fun t k => XS.aloadN X4.here hx rfl (hb hby diri_7) rfl rfl k) ?_
  refine oS (fun t k => XS.aconstNull X4.here hx rfl (hb hby diri_8) k) ?_
  refine oS (fun t k => XS.aconstNull X4.here hx rfl (hb hby diri_9) k) ?_
  show oG p e below _ T4 (mkF m 10 #[.val (.ref s1)] [.null, .null, (.ref s1), (.ref k1), (.ref bq), (.ref bq)])
  refine own_callIH X4 hx Kq (y := (⟨"com/example/rank3/rank3/graph/Term", "<init>", "(Lcom/example/rank3/rank3/graph/Term$Kind;Ljava/lang/String;Ljava/lang/String;Ljava/lang/String;)V"⟩ : MethodName)) (W := 1) (kc := 2) (ks := 24) rfl hown (oW hw 35 rfl) (oW hw 36 rfl) (oW hw 37 rfl) (own_backH (W := 1) (rm_ti l Z a0 hw [] bq k1 s1 hq n0 Zq hE wS Aq Fq_kind Fq_value Fq_datatype Fq_language gt (Es.ext Eq)) Kq (fun _ _ => trivial) (oW hw 37 rfl) (oW hw 28 rfl) (by decide) (by decide)) (by decide) (g := (mkF m 10 #[.val (.ref s1)] [.null, .null, (.ref s1), (.ref k1), (.ref bq), (.ref bq)])) rfl (by rw [hml]; rfl) (a := bq) (argsL := [(.ref k1), (.ref s1), .null, .null]) (rest := [(.ref bq)]) (lenOf pd_1 rfl) rfl (by show 2 * 0 + _ ≤ _; exact Nat.le_of_eq rfl) (hb hby diri_10) rfl e4 (by decide) (by decide) (fun v10 T10 L10 X10 hQ10 K10 hown10 R10 => ?_)
  obtain ⟨rfl, M10, KP, q⟩ := hQ10
  show oG p e below _ T10 (mkF m 13 #[.val (.ref s1)] [(.ref bq)])
  refine own_retHA X10 K10 rfl hx hlk hret rfl rfl (hb hby diri_13) ?_ (by decide) (by decide)
  exact ⟨bq, rfl, Fr.app N0 M10, ((Keep.refl h0 []).ext Eq).trans KP (allS (Or.inr (Nat.le_of_eq gq.symm)) all0), gt, Nat.le_of_eq gq.symm, q⟩
theorem dgkind_0 : decode prog_15_method_5_code 0 = .ok (.aload_n 0, 1) := by decide +kernel
theorem dgkind_1 : decode prog_15_method_5_code 1 = .ok (.getfield 7, 3) := by decide +kernel
theorem dgkind_4 : decode prog_15_method_5_code 4 = .ok (.areturn, 1) := by decide +kernel
theorem efgkind (m : MethodId) (x0 : Addr) : entryFrame m #[(.ref x0)] 1 = mkF m 0 #[.val (.ref x0)] [] := by first | (simp [entryFrame, mkF, argsToLocals, Value.category]; done) | rfl
set_option maxRecDepth 65536 in
set_option maxHeartbeats 40000000 in
theorem rm_gkind (l : Launch) (Z : State) (a0 : Array Value) (hw : ∀ d ∈ tables_1, d.before a0 Z = true) (ws : List Jvm.Cond) (t1 : Addr) (x1 : Addr) (h0 : Heap) (n0 : Nat) (Z0 : n0 ≤ h0.size) (F1 : Fld Z h0 t1 "com/example/rank3/rank3/graph/Term" "kind" "Lcom/example/rank3/rank3/graph/Term$Kind;" (.ref x1)) :
    own_Met l Z ws (⟨"com/example/rank3/rank3/graph/Term", "kind", "()Lcom/example/rank3/rank3/graph/Term$Kind;"⟩ : MethodName) prog_15_method_5_code 1 (some (.object "com/example/rank3/rank3/graph/Term$Kind")) ({ frames := 0, cells := 0, slots := 0, locals := 0 } : Room) #[(.ref t1)] h0 (fun v h L => v = some (.ref x1) ∧ Fr n0 L ∧ h = h0) := by
  refine own_body (plainFor_of_name pn_1) ?_
  intro p e s m below meth c s₁ hx hby hml hret hlk hown hnm hZ X0 e0
  have hml : c.maxLocals = 1 := hml
  have hown : s.vm.findClass "com/example/rank3/rank3/graph/Term" = some m.cls := hown
  have N0 := Fr.nil n0
  refine own_cast (efgkind m t1) ?_
  show oG p e below _ s₁ (mkF m 0 #[.val (.ref t1)] [])
  refine oS (fun t k => XS.aloadN X0.here hx rfl (hb hby dgkind_0) rfl rfl k) ?_
  show oG p e below _ s₁ (mkF m 1 #[.val (.ref t1)] [(.ref t1)])
  obtain ⟨T1, X1, e1, st1⟩ := getF X0 hx hZ hown (host := "") (Or.inl (oW hw 39 rfl)) Via.refl e0 F1 (g := (mkF m 1 #[.val (.ref t1)] [(.ref t1)])) rfl rfl (hb hby dgkind_1)
  refine oS st1 ?_
  show oG p e below _ T1 (mkF m 4 #[.val (.ref t1)] [(.ref x1)])
  refine own_retA X1 hx hlk hret rfl rfl (hb hby dgkind_4) ?_ (by decide) (by decide)
  rw [e1]
  exact ⟨rfl, N0, rfl⟩
theorem dgvalue_0 : decode prog_15_method_6_code 0 = .ok (.aload_n 0, 1) := by decide +kernel
theorem dgvalue_1 : decode prog_15_method_6_code 1 = .ok (.getfield 23, 3) := by decide +kernel
theorem dgvalue_4 : decode prog_15_method_6_code 4 = .ok (.areturn, 1) := by decide +kernel
theorem efgvalue (m : MethodId) (x0 : Addr) : entryFrame m #[(.ref x0)] 1 = mkF m 0 #[.val (.ref x0)] [] := by first | (simp [entryFrame, mkF, argsToLocals, Value.category]; done) | rfl
set_option maxRecDepth 65536 in
set_option maxHeartbeats 40000000 in
theorem rm_gvalue (l : Launch) (Z : State) (a0 : Array Value) (hw : ∀ d ∈ tables_1, d.before a0 Z = true) (ws : List Jvm.Cond) (t1 : Addr) (x1 : Addr) (h0 : Heap) (n0 : Nat) (Z0 : n0 ≤ h0.size) (F1 : Fld Z h0 t1 "com/example/rank3/rank3/graph/Term" "value" "Ljava/lang/String;" (.ref x1)) :
    own_Met l Z ws (⟨"com/example/rank3/rank3/graph/Term", "value", "()Ljava/lang/String;"⟩ : MethodName) prog_15_method_6_code 1 (some (.object "java/lang/String")) ({ frames := 0, cells := 0, slots := 0, locals := 0 } : Room) #[(.ref t1)] h0 (fun v h L => v = some (.ref x1) ∧ Fr n0 L ∧ h = h0) := by
  refine own_body (plainFor_of_name pn_1) ?_
  intro p e s m below meth c s₁ hx hby hml hret hlk hown hnm hZ X0 e0
  have hml : c.maxLocals = 1 := hml
  have hown : s.vm.findClass "com/example/rank3/rank3/graph/Term" = some m.cls := hown
  have N0 := Fr.nil n0
  refine own_cast (efgvalue m t1) ?_
  show oG p e below _ s₁ (mkF m 0 #[.val (.ref t1)] [])
  refine oS (fun t k => XS.aloadN X0.here hx rfl (hb hby dgvalue_0) rfl rfl k) ?_
  show oG p e below _ s₁ (mkF m 1 #[.val (.ref t1)] [(.ref t1)])
  obtain ⟨T1, X1, e1, st1⟩ := getF X0 hx hZ hown (host := "") (Or.inl (oW hw 47 rfl)) Via.refl e0 F1 (g := (mkF m 1 #[.val (.ref t1)] [(.ref t1)])) rfl rfl (hb hby dgvalue_1)
  refine oS st1 ?_
  show oG p e below _ T1 (mkF m 4 #[.val (.ref t1)] [(.ref x1)])
  refine own_retA X1 hx hlk hret rfl rfl (hb hby dgvalue_4) ?_ (by decide) (by decide)
  rw [e1]
  exact ⟨rfl, N0, rfl⟩
theorem dgdatatype_0 : decode prog_15_method_7_code 0 = .ok (.aload_n 0, 1) := by decide +kernel
theorem dgdatatype_1 : decode prog_15_method_7_code 1 = .ok (.getfield 26, 3) := by decide +kernel
theorem dgdatatype_4 : decode prog_15_method_7_code 4 = .ok (.areturn, 1) := by decide +kernel
theorem efgdatatype (m : MethodId) (x0 : Addr) : entryFrame m #[(.ref x0)] 1 = mkF m 0 #[.val (.ref x0)] [] := by first | (simp [entryFrame, mkF, argsToLocals, Value.category]; done) | rfl
set_option maxRecDepth 65536 in
set_option maxHeartbeats 40000000 in
theorem rm_gdatatype (l : Launch) (Z : State) (a0 : Array Value) (hw : ∀ d ∈ tables_1, d.before a0 Z = true) (ws : List Jvm.Cond) (t1 : Addr) (h0 : Heap) (n0 : Nat) (Z0 : n0 ≤ h0.size) (F1 : Fld Z h0 t1 "com/example/rank3/rank3/graph/Term" "datatype" "Ljava/lang/String;" .null) :
    own_Met l Z ws (⟨"com/example/rank3/rank3/graph/Term", "datatype", "()Ljava/lang/String;"⟩ : MethodName) prog_15_method_7_code 1 (some (.object "java/lang/String")) ({ frames := 0, cells := 0, slots := 0, locals := 0 } : Room) #[(.ref t1)] h0 (fun v h L => v = some .null ∧ Fr n0 L ∧ h = h0) := by
  refine own_body (plainFor_of_name pn_1) ?_
  intro p e s m below meth c s₁ hx hby hml hret hlk hown hnm hZ X0 e0
  have hml : c.maxLocals = 1 := hml
  have hown : s.vm.findClass "com/example/rank3/rank3/graph/Term" = some m.cls := hown
  have N0 := Fr.nil n0
  refine own_cast (efgdatatype m t1) ?_
  show oG p e below _ s₁ (mkF m 0 #[.val (.ref t1)] [])
  refine oS (fun t k => XS.aloadN X0.here hx rfl (hb hby dgdatatype_0) rfl rfl k) ?_
  show oG p e below _ s₁ (mkF m 1 #[.val (.ref t1)] [(.ref t1)])
  obtain ⟨T1, X1, e1, st1⟩ := getF X0 hx hZ hown (host := "") (Or.inl (oW hw 49 rfl)) Via.refl e0 F1 (g := (mkF m 1 #[.val (.ref t1)] [(.ref t1)])) rfl rfl (hb hby dgdatatype_1)
  refine oS st1 ?_
  show oG p e below _ T1 (mkF m 4 #[.val (.ref t1)] [.null])
  refine own_retA X1 hx hlk hret rfl rfl (hb hby dgdatatype_4) ?_ (by decide) (by decide)
  rw [e1]
  exact ⟨rfl, N0, rfl⟩
theorem dglanguage_0 : decode prog_15_method_8_code 0 = .ok (.aload_n 0, 1) := by decide +kernel
theorem dglanguage_1 : decode prog_15_method_8_code 1 = .ok (.getfield 29, 3) := by decide +kernel
theorem dglanguage_4 : decode prog_15_method_8_code 4 = .ok (.areturn, 1) := by decide +kernel
theorem efglanguage (m : MethodId) (x0 : Addr) : entryFrame m #[(.ref x0)] 1 = mkF m 0 #[.val (.ref x0)] [] := by first | (simp [entryFrame, mkF, argsToLocals, Value.category]; done) | rfl
set_option maxRecDepth 65536 in
set_option maxHeartbeats 40000000 in
theorem rm_glanguage (l : Launch) (Z : State) (a0 : Array Value) (hw : ∀ d ∈ tables_1, d.before a0 Z = true) (ws : List Jvm.Cond) (t1 : Addr) (h0 : Heap) (n0 : Nat) (Z0 : n0 ≤ h0.size) (F1 : Fld Z h0 t1 "com/example/rank3/rank3/graph/Term" "language" "Ljava/lang/String;" .null) :
    own_Met l Z ws (⟨"com/example/rank3/rank3/graph/Term", "language", "()Ljava/lang/String;"⟩ : MethodName) prog_15_method_8_code 1 (some (.object "java/lang/String")) ({ frames := 0, cells := 0, slots := 0, locals := 0 } : Room) #[(.ref t1)] h0 (fun v h L => v = some .null ∧ Fr n0 L ∧ h = h0) := by
  refine own_body (plainFor_of_name pn_1) ?_
  intro p e s m below meth c s₁ hx hby hml hret hlk hown hnm hZ X0 e0
  have hml : c.maxLocals = 1 := hml
  have hown : s.vm.findClass "com/example/rank3/rank3/graph/Term" = some m.cls := hown
  have N0 := Fr.nil n0
  refine own_cast (efglanguage m t1) ?_
  show oG p e below _ s₁ (mkF m 0 #[.val (.ref t1)] [])
  refine oS (fun t k => XS.aloadN X0.here hx rfl (hb hby dglanguage_0) rfl rfl k) ?_
  show oG p e below _ s₁ (mkF m 1 #[.val (.ref t1)] [(.ref t1)])
  obtain ⟨T1, X1, e1, st1⟩ := getF X0 hx hZ hown (host := "") (Or.inl (oW hw 51 rfl)) Via.refl e0 F1 (g := (mkF m 1 #[.val (.ref t1)] [(.ref t1)])) rfl rfl (hb hby dglanguage_1)
  refine oS st1 ?_
  show oG p e below _ T1 (mkF m 4 #[.val (.ref t1)] [.null])
  refine own_retA X1 hx hlk hret rfl rfl (hb hby dglanguage_4) ?_ (by decide) (by decide)
  rw [e1]
  exact ⟨rfl, N0, rfl⟩
theorem doe_0 : decode jdk_31_method_2_code 0 = .ok (.aload_n 0, 1) := by decide +kernel
theorem doe_1 : decode jdk_31_method_2_code 1 = .ok (.aload_n 1, 1) := by decide +kernel
theorem doe_2 : decode jdk_31_method_2_code 2 = .ok (.if_acmp .eq 15, 3) := by decide +kernel
theorem doe_5 : decode jdk_31_method_2_code 5 = .ok (.aload_n 0, 1) := by decide +kernel
theorem doe_6 : decode jdk_31_method_2_code 6 = .ok (.ifnull 15, 3) := by decide +kernel
theorem doe_9 : decode jdk_31_method_2_code 9 = .ok (.aload_n 0, 1) := by decide +kernel
theorem doe_10 : decode jdk_31_method_2_code 10 = .ok (.aload_n 1, 1) := by decide +kernel
theorem doe_11 : decode jdk_31_method_2_code 11 = .ok (.invokevirtual 14, 3) := by decide +kernel
theorem doe_14 : decode jdk_31_method_2_code 14 = .ok (.ifCond .eq 7, 3) := by decide +kernel
theorem doe_17 : decode jdk_31_method_2_code 17 = .ok (.iconst 1, 1) := by decide +kernel
theorem doe_18 : decode jdk_31_method_2_code 18 = .ok (.goto 4, 3) := by decide +kernel
theorem doe_21 : decode jdk_31_method_2_code 21 = .ok (.iconst 0, 1) := by decide +kernel
theorem doe_22 : decode jdk_31_method_2_code 22 = .ok (.ireturn, 1) := by decide +kernel
theorem efoe (m : MethodId)  : entryFrame m #[.null, .null] 2 = mkF m 0 #[.val .null, .val .null] [] := by first | (simp [entryFrame, mkF, argsToLocals, Value.category]; done) | rfl
set_option maxRecDepth 65536 in
set_option maxHeartbeats 40000000 in
theorem rm_oe (l : Launch) (Z : State) (a0 : Array Value) (hw : ∀ d ∈ tables_1, d.before a0 Z = true) (ws : List Jvm.Cond) (h0 : Heap) (n0 : Nat) (Z0 : n0 ≤ h0.size) :
    own_Met l Z ws (⟨"java/util/Objects", "equals", "(Ljava/lang/Object;Ljava/lang/Object;)Z"⟩ : MethodName) jdk_31_method_2_code 2 (some .boolean) ({ frames := 0, cells := 0, slots := 0, locals := 0 } : Room) #[.null, .null] h0 (fun v h L => v = some (.int 1) ∧ Fr n0 L ∧ h = h0) := by
  refine own_body (plainFor_of_name pn_0) ?_
  intro p e s m below meth c s₁ hx hby hml hret hlk hown hnm hZ X0 e0
  have hml : c.maxLocals = 2 := hml
  have hown : s.vm.findClass "java/util/Objects" = some m.cls := hown
  have N0 := Fr.nil n0
  refine own_cast (efoe m ) ?_
  show oG p e below _ s₁ (mkF m 0 #[.val .null, .val .null] [])
  refine oS (fun t k => XS.aloadN X0.here hx rfl (hb hby doe_0) rfl rfl k) ?_
  refine oS (fun t k => XS.aloadN X0.here hx rfl (hb hby doe_1) rfl rfl k) ?_
  show oG p e below _ s₁ (mkF m 2 #[.val .null, .val .null] [.null, .null])
  refine oS (fun t k => Jvm.RoadKit.acmp (g := (mkF m 2 #[.val .null, .val .null] [.null, .null])) X0 hx rfl rfl rfl (pc0 := 2) (pc' := 17) (same := true) rfl (hb hby doe_2) rfl (decide_eq_true rfl) (by decide) (by decide) k) ?_
  show oG p e below _ s₁ (mkF m 17 #[.val .null, .val .null] [])
  refine oS (fun t k => XS.iconst X0.here hx rfl (hb hby doe_17) k) ?_
  refine oS (fun t k => XS.goto X0.here hx rfl (pc0 := 18) (pc' := 22) rfl (hb hby doe_18) (by decide) (by decide) k) ?_
  show oG p e below _ s₁ (mkF m 22 #[.val .null, .val .null] [(.int 1)])
  refine own_retN (t := .boolean) X0 hx hlk hret (by simp) (hb hby doe_22) ?_ (by decide) (by decide)
  rw [e0]
  exact ⟨rfl, N0, rfl⟩
theorem dteS_0 : decode prog_15_method_10_code 0 = .ok (.aload_n 1, 1) := by decide +kernel
theorem dteS_1 : decode prog_15_method_10_code 1 = .ok (.instanceof 8, 3) := by decide +kernel
theorem dteS_4 : decode prog_15_method_10_code 4 = .ok (.ifCond .eq 65, 3) := by decide +kernel
theorem dteS_7 : decode prog_15_method_10_code 7 = .ok (.aload_n 1, 1) := by decide +kernel
theorem dteS_8 : decode prog_15_method_10_code 8 = .ok (.checkcast 8, 3) := by decide +kernel
theorem dteS_11 : decode prog_15_method_10_code 11 = .ok (.astore_n 2, 1) := by decide +kernel
theorem dteS_12 : decode prog_15_method_10_code 12 = .ok (.aload_n 0, 1) := by decide +kernel
theorem dteS_13 : decode prog_15_method_10_code 13 = .ok (.getfield 7, 3) := by decide +kernel
theorem dteS_16 : decode prog_15_method_10_code 16 = .ok (.aload_n 2, 1) := by decide +kernel
theorem dteS_17 : decode prog_15_method_10_code 17 = .ok (.getfield 7, 3) := by decide +kernel
theorem dteS_20 : decode prog_15_method_10_code 20 = .ok (.if_acmp .ne 49, 3) := by decide +kernel
theorem dteS_23 : decode prog_15_method_10_code 23 = .ok (.aload_n 0, 1) := by decide +kernel
theorem dteS_24 : decode prog_15_method_10_code 24 = .ok (.getfield 23, 3) := by decide +kernel
theorem dteS_27 : decode prog_15_method_10_code 27 = .ok (.aload_n 2, 1) := by decide +kernel
theorem dteS_28 : decode prog_15_method_10_code 28 = .ok (.getfield 23, 3) := by decide +kernel
theorem dteS_31 : decode prog_15_method_10_code 31 = .ok (.invokevirtual 70, 3) := by decide +kernel
theorem dteS_34 : decode prog_15_method_10_code 34 = .ok (.ifCond .eq 35, 3) := by decide +kernel
theorem dteS_37 : decode prog_15_method_10_code 37 = .ok (.aload_n 0, 1) := by decide +kernel
theorem dteS_38 : decode prog_15_method_10_code 38 = .ok (.getfield 26, 3) := by decide +kernel
theorem dteS_41 : decode prog_15_method_10_code 41 = .ok (.aload_n 2, 1) := by decide +kernel
theorem dteS_42 : decode prog_15_method_10_code 42 = .ok (.getfield 26, 3) := by decide +kernel
theorem dteS_45 : decode prog_15_method_10_code 45 = .ok (.invokestatic 74, 3) := by decide +kernel
theorem dteS_48 : decode prog_15_method_10_code 48 = .ok (.ifCond .eq 21, 3) := by decide +kernel
theorem dteS_51 : decode prog_15_method_10_code 51 = .ok (.aload_n 0, 1) := by decide +kernel
theorem dteS_52 : decode prog_15_method_10_code 52 = .ok (.getfield 29, 3) := by decide +kernel
theorem dteS_55 : decode prog_15_method_10_code 55 = .ok (.aload_n 2, 1) := by decide +kernel
theorem dteS_56 : decode prog_15_method_10_code 56 = .ok (.getfield 29, 3) := by decide +kernel
theorem dteS_59 : decode prog_15_method_10_code 59 = .ok (.invokestatic 74, 3) := by decide +kernel
theorem dteS_62 : decode prog_15_method_10_code 62 = .ok (.ifCond .eq 7, 3) := by decide +kernel
theorem dteS_65 : decode prog_15_method_10_code 65 = .ok (.iconst 1, 1) := by decide +kernel
theorem dteS_66 : decode prog_15_method_10_code 66 = .ok (.goto 4, 3) := by decide +kernel
theorem dteS_69 : decode prog_15_method_10_code 69 = .ok (.iconst 0, 1) := by decide +kernel
theorem dteS_70 : decode prog_15_method_10_code 70 = .ok (.ireturn, 1) := by decide +kernel
theorem efteS (m : MethodId) (x0 : Addr) (x1 : Addr) : entryFrame m #[(.ref x0), (.ref x1)] 3 = mkF m 0 #[.val (.ref x0), .val (.ref x1), .unset] [] := by first | (simp [entryFrame, mkF, argsToLocals, Value.category]; done) | rfl
theorem pd_2 : parseMethodDescriptor "(Ljava/lang/Object;)Z" = some ⟨[(.object "java/lang/Object")], some .boolean⟩ := by decide +kernel
theorem pd_3 : parseMethodDescriptor "(Ljava/lang/Object;Ljava/lang/Object;)Z" = some ⟨[(.object "java/lang/Object"), (.object "java/lang/Object")], some .boolean⟩ := by decide +kernel
set_option maxRecDepth 65536 in
set_option maxHeartbeats 40000000 in
theorem rm_teS (l : Launch) (Z : State) (a0 : Array Value) (hw : ∀ d ∈ tables_1, d.before a0 Z = true) (ws : List Jvm.Cond) (t1 : Addr) (t2 : Addr) (k1 : Addr) (s1 : Addr) (s2 : Addr) (cs1 : List Int32) (cs2 : List Int32) (CS : Int32) (h0 : Heap) (n0 : Nat) (Z0 : n0 ≤ h0.size) (E1 : Exa Z h0 t1 "com/example/rank3/rank3/graph/Term") (E2 : Exa Z h0 t2 "com/example/rank3/rank3/graph/Term") (A1 : Fld Z h0 t1 "com/example/rank3/rank3/graph/Term" "kind" "Lcom/example/rank3/rank3/graph/Term$Kind;" (.ref k1)) (A2 : Fld Z h0 t2 "com/example/rank3/rank3/graph/Term" "kind" "Lcom/example/rank3/rank3/graph/Term$Kind;" (.ref k1)) (B1 : Fld Z h0 t1 "com/example/rank3/rank3/graph/Term" "value" "Ljava/lang/String;" (.ref s1)) (B2 : Fld Z h0 t2 "com/example/rank3/rank3/graph/Term" "value" "Ljava/lang/String;" (.ref s2)) (C1 : Fld Z h0 t1 "com/example/rank3/rank3/graph/Term" "datatype" "Ljava/lang/String;" .null) (C2 : Fld Z h0 t2 "com/example/rank3/rank3/graph/Term" "datatype" "Ljava/lang/String;" .null) (D1 : Fld Z h0 t1 "com/example/rank3/rank3/graph/Term" "language" "Ljava/lang/String;" .null) (D2 : Fld Z h0 t2 "com/example/rank3/rank3/graph/Term" "language" "Ljava/lang/String;" .null) (L1 : own_Lat Z h0 s1 cs1) (L2 : own_Lat Z h0 s2 cs2) (hp1 : ∀ c ∈ cs1, ¬ c < 0 ∧ ¬ (255 : Int32) < c) (hp2 : ∀ c ∈ cs2, ¬ c < 0 ∧ ¬ (255 : Int32) < c) (hl1 : cs1.length ≤ 4000) (hl2 : cs2.length ≤ 4000) (SC : Sta Z h0 "java/lang/String" "COMPACT_STRINGS" "Z" (.int CS)) (hCS : ¬ CS = 0) :
    own_Met l Z ws (⟨"com/example/rank3/rank3/graph/Term", "equals", "(Ljava/lang/Object;)Z"⟩ : MethodName) prog_15_method_10_code 3 (some .boolean) ({ frames := 3, cells := 0, slots := 0, locals := 60 } : Room) #[(.ref t1), (.ref t2)] h0 (fun v h L => v = some (.int (if cs1 = cs2 then 1 else 0)) ∧ Fr n0 L ∧ h = h0) := by
  refine own_body (plainFor_of_name pn_1) ?_
  intro p e s m below meth c s₁ hx hby hml hret hlk hown hnm hZ X0 e0
  have hml : c.maxLocals = 3 := hml
  have hown : s.vm.findClass "com/example/rank3/rank3/graph/Term" = some m.cls := hown
  have N0 := Fr.nil n0
  refine own_cast (efteS m t1 t2) ?_
  show oG p e below _ s₁ (mkF m 0 #[.val (.ref t1), .val (.ref t2), .unset] [])
  refine oS (fun t k => XS.aloadN X0.here hx rfl (hb hby dteS_0) rfl rfl k) ?_
  show oG p e below _ s₁ (mkF m 1 #[.val (.ref t1), .val (.ref t2), .unset] [(.ref t2)])
  obtain ⟨T1, X1, e1, st1⟩ := instY X0 hx hZ hown (oW hw 30 rfl) e0 (Ins.self E2) (g := (mkF m 1 #[.val (.ref t1), .val (.ref t2), .unset] [(.ref t2)])) rfl rfl (hb hby dteS_1)
  refine oS st1 ?_
  show oG p e below _ T1 (mkF m 4 #[.val (.ref t1), .val (.ref t2), .unset] [(.int 1)])
  refine oS (fun t k => XS.ifNo X1.here hx rfl (hb hby dteS_4) rfl ((if0 _ _).trans (feq (by decide : ¬ (1 : Int32) = 0)).1) k) ?_
  show oG p e below _ T1 (mkF m 7 #[.val (.ref t1), .val (.ref t2), .unset] [])
  refine oS (fun t k => XS.aloadN X1.here hx rfl (hb hby dteS_7) rfl rfl k) ?_
  show oG p e below _ T1 (mkF m 8 #[.val (.ref t1), .val (.ref t2), .unset] [(.ref t2)])
  obtain ⟨T8, X8, e8, st8⟩ := castY X1 hx hZ hown (oW hw 30 rfl) e1 (Ins.self E2) (g := (mkF m 8 #[.val (.ref t1), .val (.ref t2), .unset] [(.ref t2)])) rfl rfl (hb hby dteS_8)
  refine oS st8 ?_
  show oG p e below _ T8 (mkF m 11 #[.val (.ref t1), .val (.ref t2), .unset] [(.ref t2)])
  refine oS (fun t k => XS.astoreN X8.here hx rfl (hb hby dteS_11) rfl rfl (l' := #[.val (.ref t1), .val (.ref t2), .val (.ref t2)]) rfl k) ?_
  show oG p e below _ T8 (mkF m 12 #[.val (.ref t1), .val (.ref t2), .val (.ref t2)] [])
  refine oS (fun t k => XS.aloadN X8.here hx rfl (hb hby dteS_12) rfl rfl k) ?_
  show oG p e below _ T8 (mkF m 13 #[.val (.ref t1), .val (.ref t2), .val (.ref t2)] [(.ref t1)])
  obtain ⟨T13, X13, e13, st13⟩ := getF X8 hx hZ hown (host := "") (Or.inl (oW hw 39 rfl)) Via.refl e8 A1 (g := (mkF m 13 #[.val (.ref t1), .val (.ref t2), .val (.ref t2)] [(.ref t1)])) rfl rfl (hb hby dteS_13)
  refine oS st13 ?_
  show oG p e below _ T13 (mkF m 16 #[.val (.ref t1), .val (.ref t2), .val (.ref t2)] [(.ref k1)])
  refine oS (fun t k => XS.aloadN X13.here hx rfl (hb hby dteS_16) rfl rfl k) ?_
  show oG p e below _ T13 (mkF m 17 #[.val (.ref t1), .val (.ref t2), .val (.ref t2)] [(.ref t2), (.ref k1)])
  obtain ⟨T17, X17, e17, st17⟩ := getF X13 hx hZ hown (host := "") (Or.inl (oW hw 39 rfl)) Via.refl e13 A2 (g := (mkF m 17 #[.val (.ref t1), .val (.ref t2), .val (.ref t2)] [(.ref t2), (.ref k1)])) rfl rfl (hb hby dteS_17)
  refine oS st17 ?_
  show oG p e below _ T17 (mkF m 20 #[.val (.ref t1), .val (.ref t2), .val (.ref t2)] [(.ref k1), (.ref k1)])
  obtain ⟨u1, kb1, LE1, LV1, LC1, LA1⟩ := id L1
  obtain ⟨u2, kb2, LE2, LV2, LC2, LA2⟩ := id L2
  have heq : ∀ d ∈ StrChars.Road.wordsEq, d.before a0 Z = true := fun d hd => hw d ((by decide +kernel : ∀ d ∈ StrChars.Road.wordsEq, d ∈ tables_1) d hd)
  refine oS (fun t k => Jvm.RoadKit.acmp (g := (mkF m 20 #[.val (.ref t1), .val (.ref t2), .val (.ref t2)] [(.ref k1), (.ref k1)])) X17 hx rfl rfl rfl (pc0 := 20) (pc' := 23) (same := true) rfl (hb hby dteS_20) rfl (decide_eq_true rfl) (by decide) (by decide) k) ?_
  show oG p e below _ T17 (mkF m 23 #[.val (.ref t1), .val (.ref t2), .val (.ref t2)] [])
  refine oS (fun t k => XS.aloadN X17.here hx rfl (hb hby dteS_23) rfl rfl k) ?_
  show oG p e below _ T17 (mkF m 24 #[.val (.ref t1), .val (.ref t2), .val (.ref t2)] [(.ref t1)])
  obtain ⟨T24, X24, e24, st24⟩ := getF X17 hx hZ hown (host := "") (Or.inl (oW hw 47 rfl)) Via.refl e17 B1 (g := (mkF m 24 #[.val (.ref t1), .val (.ref t2), .val (.ref t2)] [(.ref t1)])) rfl rfl (hb hby dteS_24)
  refine oS st24 ?_
  show oG p e below _ T24 (mkF m 27 #[.val (.ref t1), .val (.ref t2), .val (.ref t2)] [(.ref s1)])
  refine oS (fun t k => XS.aloadN X24.here hx rfl (hb hby dteS_27) rfl rfl k) ?_
  show oG p e below _ T24 (mkF m 28 #[.val (.ref t1), .val (.ref t2), .val (.ref t2)] [(.ref t2), (.ref s1)])
  obtain ⟨T28, X28, e28, st28⟩ := getF X24 hx hZ hown (host := "") (Or.inl (oW hw 47 rfl)) Via.refl e24 B2 (g := (mkF m 28 #[.val (.ref t1), .val (.ref t2), .val (.ref t2)] [(.ref t2), (.ref s1)])) rfl rfl (hb hby dteS_28)
  refine oS st28 ?_
  show oG p e below _ T28 (mkF m 31 #[.val (.ref t1), .val (.ref t2), .val (.ref t2)] [(.ref s2), (.ref s1)])
  refine own_callV X28 hx hZ (y := (⟨"java/lang/String", "equals", "(Ljava/lang/Object;)Z"⟩ : MethodName)) (W := 0) (Q := (fun v h L => ((v = some (.int 1) ∧ cs1 = cs2) ∨ (v = some (.int 0) ∧ ¬ cs1 = cs2)) ∧ L = [] ∧ h = h0)) (kc := 0) (ks := 0) hown (oW hw 225 rfl) (oW hw 65 rfl) (oW hw 67 rfl) (oW hw 66 rfl) (StrChars.Road.eqW (W := 0) hZ heq (kI := 4) (oW hw 5 rfl) LE1 LV1 LC1 LA1 (StrChars.Road.codOf rfl (fun x hx => (hp1 x hx).2)) (own_up hp1) hl1 LE2 LV2 LC2 LA2 (StrChars.Road.codOf rfl (fun x hx => (hp2 x hx).2)) (own_up hp2) hl2 SC hCS (by decide) (by decide)) (by decide) (b := s1) LE1 (g := (mkF m 31 #[.val (.ref t1), .val (.ref t2), .val (.ref t2)] [(.ref s2), (.ref s1)])) rfl (by rw [hml]; rfl) (argsL := [(.ref s2)]) (rest := []) (lenOf pd_2 rfl) rfl (by show 2 * 0 + _ ≤ _; exact Nat.le_of_eq rfl) (hb hby dteS_31) rfl e28 (by decide) (by decide) (fun v31 T31 L31 X31 hQ31 => ?_)
  obtain ⟨hv, rfl, e31⟩ := hQ31
  rcases hv with ⟨rfl, hq⟩ | ⟨rfl, hq⟩
  · show oG p e below _ T31 (mkF m 34 #[.val (.ref t1), .val (.ref t2), .val (.ref t2)] [(.int 1)])
    refine oS (fun t k => XS.ifNo X31.here hx rfl (hb hby dteS_34) rfl ((if0 _ _).trans (feq (by decide : ¬ (1 : Int32) = 0)).1) k) ?_
    show oG p e below _ T31 (mkF m 37 #[.val (.ref t1), .val (.ref t2), .val (.ref t2)] [])
    refine oS (fun t k => XS.aloadN X31.here hx rfl (hb hby dteS_37) rfl rfl k) ?_
    show oG p e below _ T31 (mkF m 38 #[.val (.ref t1), .val (.ref t2), .val (.ref t2)] [(.ref t1)])
    obtain ⟨T38, X38, e38, st38⟩ := getF X31 hx hZ hown (host := "") (Or.inl (oW hw 49 rfl)) Via.refl e31 C1 (g := (mkF m 38 #[.val (.ref t1), .val (.ref t2), .val (.ref t2)] [(.ref t1)])) rfl rfl (hb hby dteS_38)
    refine oS st38 ?_
    show oG p e below _ T38 (mkF m 41 #[.val (.ref t1), .val (.ref t2), .val (.ref t2)] [.null])
    refine oS (fun t k => XS.aloadN X38.here hx rfl (hb hby dteS_41) rfl rfl k) ?_
    show oG p e below _ T38 (mkF m 42 #[.val (.ref t1), .val (.ref t2), .val (.ref t2)] [(.ref t2), .null])
    obtain ⟨T42, X42, e42, st42⟩ := getF X38 hx hZ hown (host := "") (Or.inl (oW hw 49 rfl)) Via.refl e38 C2 (g := (mkF m 42 #[.val (.ref t1), .val (.ref t2), .val (.ref t2)] [(.ref t2), .null])) rfl rfl (hb hby dteS_42)
    refine oS st42 ?_
    show oG p e below _ T42 (mkF m 45 #[.val (.ref t1), .val (.ref t2), .val (.ref t2)] [.null, .null])
    refine own_callS X42 hx hZ (y := (⟨"java/util/Objects", "equals", "(Ljava/lang/Object;Ljava/lang/Object;)Z"⟩ : MethodName)) (W := 0) (kc := 0) (ks := 0) hown (oW hw 230 rfl) (oW hw 231 rfl) (oW hw 44 rfl) (oW hw 232 rfl) (own_back (W := 0) (rm_oe l Z a0 hw [] h0 n0 Z0) hZ (oW hw 232 rfl) (oW hw 44 rfl) (by decide) (by decide)) (by decide) (g := (mkF m 45 #[.val (.ref t1), .val (.ref t2), .val (.ref t2)] [.null, .null])) rfl (by rw [hml]; rfl) (argsL := [.null, .null]) (rest := []) (lenOf pd_3 rfl) rfl (by show 2 * 0 + _ ≤ _; exact Nat.le_of_eq rfl) (hb hby dteS_45) rfl e42 (by decide) (by decide) (fun v45 T45 L45 X45 hQ45 => ?_)
    obtain ⟨rfl, M45, e45⟩ := hQ45
    show oG p e below _ T45 (mkF m 48 #[.val (.ref t1), .val (.ref t2), .val (.ref t2)] [(.int 1)])
    refine oS (fun t k => XS.ifNo X45.here hx rfl (hb hby dteS_48) rfl ((if0 _ _).trans (feq (by decide : ¬ (1 : Int32) = 0)).1) k) ?_
    show oG p e below _ T45 (mkF m 51 #[.val (.ref t1), .val (.ref t2), .val (.ref t2)] [])
    refine oS (fun t k => XS.aloadN X45.here hx rfl (hb hby dteS_51) rfl rfl k) ?_
    show oG p e below _ T45 (mkF m 52 #[.val (.ref t1), .val (.ref t2), .val (.ref t2)] [(.ref t1)])
    obtain ⟨T52, X52, e52, st52⟩ := getF X45 hx hZ hown (host := "") (Or.inl (oW hw 51 rfl)) Via.refl e45 D1 (g := (mkF m 52 #[.val (.ref t1), .val (.ref t2), .val (.ref t2)] [(.ref t1)])) rfl rfl (hb hby dteS_52)
    refine oS st52 ?_
    show oG p e below _ T52 (mkF m 55 #[.val (.ref t1), .val (.ref t2), .val (.ref t2)] [.null])
    refine oS (fun t k => XS.aloadN X52.here hx rfl (hb hby dteS_55) rfl rfl k) ?_
    show oG p e below _ T52 (mkF m 56 #[.val (.ref t1), .val (.ref t2), .val (.ref t2)] [(.ref t2), .null])
    obtain ⟨T56, X56, e56, st56⟩ := getF X52 hx hZ hown (host := "") (Or.inl (oW hw 51 rfl)) Via.refl e52 D2 (g := (mkF m 56 #[.val (.ref t1), .val (.ref t2), .val (.ref t2)] [(.ref t2), .null])) rfl rfl (hb hby dteS_56)
    refine oS st56 ?_
    show oG p e below _ T56 (mkF m 59 #[.val (.ref t1), .val (.ref t2), .val (.ref t2)] [.null, .null])
    refine own_callS X56 hx hZ (y := (⟨"java/util/Objects", "equals", "(Ljava/lang/Object;Ljava/lang/Object;)Z"⟩ : MethodName)) (W := 0) (kc := 0) (ks := 0) hown (oW hw 230 rfl) (oW hw 231 rfl) (oW hw 44 rfl) (oW hw 232 rfl) (own_back (W := 0) (rm_oe l Z a0 hw [] h0 n0 Z0) hZ (oW hw 232 rfl) (oW hw 44 rfl) (by decide) (by decide)) (by decide) (g := (mkF m 59 #[.val (.ref t1), .val (.ref t2), .val (.ref t2)] [.null, .null])) rfl (by rw [hml]; rfl) (argsL := [.null, .null]) (rest := []) (lenOf pd_3 rfl) rfl (by show 2 * 0 + _ ≤ _; exact Nat.le_of_eq rfl) (hb hby dteS_59) rfl e56 (by decide) (by decide) (fun v59 T59 L59 X59 hQ59 => ?_)
    obtain ⟨rfl, M59, e59⟩ := hQ59
    show oG p e below _ T59 (mkF m 62 #[.val (.ref t1), .val (.ref t2), .val (.ref t2)] [(.int 1)])
    refine oS (fun t k => XS.ifNo X59.here hx rfl (hb hby dteS_62) rfl ((if0 _ _).trans (feq (by decide : ¬ (1 : Int32) = 0)).1) k) ?_
    show oG p e below _ T59 (mkF m 65 #[.val (.ref t1), .val (.ref t2), .val (.ref t2)] [])
    refine oS (fun t k => XS.iconst X59.here hx rfl (hb hby dteS_65) k) ?_
    refine oS (fun t k => XS.goto X59.here hx rfl (pc0 := 66) (pc' := 70) rfl (hb hby dteS_66) (by decide) (by decide) k) ?_
    show oG p e below _ T59 (mkF m 70 #[.val (.ref t1), .val (.ref t2), .val (.ref t2)] [(.int 1)])
    refine own_retN (t := .boolean) X59 hx hlk hret (by simp) (hb hby dteS_70) ?_ (by decide) (by decide)
    rw [e59]
    exact ⟨by rw [if_pos hq]; rfl, (Fr.app (Fr.app (Fr.app N0 (Fr.nil n0)) M45) M59), rfl⟩
  · show oG p e below _ T31 (mkF m 34 #[.val (.ref t1), .val (.ref t2), .val (.ref t2)] [(.int 0)])
    refine oS (fun t k => XS.ifYes X31.here hx rfl (pc0 := 34) (pc' := 69) rfl (hb hby dteS_34) rfl ((if0 _ _).trans (teq (rfl : (0 : Int32) = 0)).1) (by decide) (by decide) k) ?_
    show oG p e below _ T31 (mkF m 69 #[.val (.ref t1), .val (.ref t2), .val (.ref t2)] [])
    refine oS (fun t k => XS.iconst X31.here hx rfl (hb hby dteS_69) k) ?_
    show oG p e below _ T31 (mkF m 70 #[.val (.ref t1), .val (.ref t2), .val (.ref t2)] [(.int 0)])
    refine own_retN (t := .boolean) X31 hx hlk hret (by simp) (hb hby dteS_70) ?_ (by decide) (by decide)
    rw [e31]
    exact ⟨by rw [if_neg hq]; rfl, Fr.app N0 (Fr.nil n0), rfl⟩
theorem efteD (m : MethodId) (x0 : Addr) (x1 : Addr) : entryFrame m #[(.ref x0), (.ref x1)] 3 = mkF m 0 #[.val (.ref x0), .val (.ref x1), .unset] [] := by first | (simp [entryFrame, mkF, argsToLocals, Value.category]; done) | rfl
set_option maxRecDepth 65536 in
set_option maxHeartbeats 40000000 in
theorem rm_teD (l : Launch) (Z : State) (a0 : Array Value) (hw : ∀ d ∈ tables_1, d.before a0 Z = true) (ws : List Jvm.Cond) (t1 : Addr) (t2 : Addr) (k1 : Addr) (k2 : Addr) (h0 : Heap) (n0 : Nat) (Z0 : n0 ≤ h0.size) (E1 : Exa Z h0 t1 "com/example/rank3/rank3/graph/Term") (E2 : Exa Z h0 t2 "com/example/rank3/rank3/graph/Term") (A1 : Fld Z h0 t1 "com/example/rank3/rank3/graph/Term" "kind" "Lcom/example/rank3/rank3/graph/Term$Kind;" (.ref k1)) (A2 : Fld Z h0 t2 "com/example/rank3/rank3/graph/Term" "kind" "Lcom/example/rank3/rank3/graph/Term$Kind;" (.ref k2)) (hk : k1 ≠ k2) :
    own_Met l Z ws (⟨"com/example/rank3/rank3/graph/Term", "equals", "(Ljava/lang/Object;)Z"⟩ : MethodName) prog_15_method_10_code 3 (some .boolean) ({ frames := 3, cells := 0, slots := 0, locals := 60 } : Room) #[(.ref t1), (.ref t2)] h0 (fun v h L => v = some (.int 0) ∧ Fr n0 L ∧ h = h0) := by
  refine own_body (plainFor_of_name pn_1) ?_
  intro p e s m below meth c s₁ hx hby hml hret hlk hown hnm hZ X0 e0
  have hml : c.maxLocals = 3 := hml
  have hown : s.vm.findClass "com/example/rank3/rank3/graph/Term" = some m.cls := hown
  have N0 := Fr.nil n0
  refine own_cast (efteD m t1 t2) ?_
  show oG p e below _ s₁ (mkF m 0 #[.val (.ref t1), .val (.ref t2), .unset] [])
  refine oS (fun t k => XS.aloadN X0.here hx rfl (hb hby dteS_0) rfl rfl k) ?_
  show oG p e below _ s₁ (mkF m 1 #[.val (.ref t1), .val (.ref t2), .unset] [(.ref t2)])
  obtain ⟨T1, X1, e1, st1⟩ := instY X0 hx hZ hown (oW hw 30 rfl) e0 (Ins.self E2) (g := (mkF m 1 #[.val (.ref t1), .val (.ref t2), .unset] [(.ref t2)])) rfl rfl (hb hby dteS_1)
  refine oS st1 ?_
  show oG p e below _ T1 (mkF m 4 #[.val (.ref t1), .val (.ref t2), .unset] [(.int 1)])
  refine oS (fun t k => XS.ifNo X1.here hx rfl (hb hby dteS_4) rfl ((if0 _ _).trans (feq (by decide : ¬ (1 : Int32) = 0)).1) k) ?_
  show oG p e below _ T1 (mkF m 7 #[.val (.ref t1), .val (.ref t2), .unset] [])
  refine oS (fun t k => XS.aloadN X1.here hx rfl (hb hby dteS_7) rfl rfl k) ?_
  show oG p e below _ T1 (mkF m 8 #[.val (.ref t1), .val (.ref t2), .unset] [(.ref t2)])
  obtain ⟨T8, X8, e8, st8⟩ := castY X1 hx hZ hown (oW hw 30 rfl) e1 (Ins.self E2) (g := (mkF m 8 #[.val (.ref t1), .val (.ref t2), .unset] [(.ref t2)])) rfl rfl (hb hby dteS_8)
  refine oS st8 ?_
  show oG p e below _ T8 (mkF m 11 #[.val (.ref t1), .val (.ref t2), .unset] [(.ref t2)])
  refine oS (fun t k => XS.astoreN X8.here hx rfl (hb hby dteS_11) rfl rfl (l' := #[.val (.ref t1), .val (.ref t2), .val (.ref t2)]) rfl k) ?_
  show oG p e below _ T8 (mkF m 12 #[.val (.ref t1), .val (.ref t2), .val (.ref t2)] [])
  refine oS (fun t k => XS.aloadN X8.here hx rfl (hb hby dteS_12) rfl rfl k) ?_
  show oG p e below _ T8 (mkF m 13 #[.val (.ref t1), .val (.ref t2), .val (.ref t2)] [(.ref t1)])
  obtain ⟨T13, X13, e13, st13⟩ := getF X8 hx hZ hown (host := "") (Or.inl (oW hw 39 rfl)) Via.refl e8 A1 (g := (mkF m 13 #[.val (.ref t1), .val (.ref t2), .val (.ref t2)] [(.ref t1)])) rfl rfl (hb hby dteS_13)
  refine oS st13 ?_
  show oG p e below _ T13 (mkF m 16 #[.val (.ref t1), .val (.ref t2), .val (.ref t2)] [(.ref k1)])
  refine oS (fun t k => XS.aloadN X13.here hx rfl (hb hby dteS_16) rfl rfl k) ?_
  show oG p e below _ T13 (mkF m 17 #[.val (.ref t1), .val (.ref t2), .val (.ref t2)] [(.ref t2), (.ref k1)])
  obtain ⟨T17, X17, e17, st17⟩ := getF X13 hx hZ hown (host := "") (Or.inl (oW hw 39 rfl)) Via.refl e13 A2 (g := (mkF m 17 #[.val (.ref t1), .val (.ref t2), .val (.ref t2)] [(.ref t2), (.ref k1)])) rfl rfl (hb hby dteS_17)
  refine oS st17 ?_
  show oG p e below _ T17 (mkF m 20 #[.val (.ref t1), .val (.ref t2), .val (.ref t2)] [(.ref k2), (.ref k1)])
  refine oS (fun t k => Jvm.RoadKit.acmp (g := (mkF m 20 #[.val (.ref t1), .val (.ref t2), .val (.ref t2)] [(.ref k2), (.ref k1)])) X17 hx rfl rfl rfl (pc0 := 20) (pc' := 69) (same := false) rfl (hb hby dteS_20) rfl (decide_eq_false fun q => hk (Value.ref.inj q)) (by decide) (by decide) k) ?_
  show oG p e below _ T17 (mkF m 69 #[.val (.ref t1), .val (.ref t2), .val (.ref t2)] [])
  refine oS (fun t k => XS.iconst X17.here hx rfl (hb hby dteS_69) k) ?_
  show oG p e below _ T17 (mkF m 70 #[.val (.ref t1), .val (.ref t2), .val (.ref t2)] [(.int 0)])
  refine own_retN (t := .boolean) X17 hx hlk hret (by simp) (hb hby dteS_70) ?_ (by decide) (by decide)
  rw [e17]
  exact ⟨rfl, N0, rfl⟩
theorem dsv0_0 : decode jdk_42_method_149_code 0 = .ok (.aload_n 0, 1) := by decide +kernel
theorem dsv0_1 : decode jdk_42_method_149_code 1 = .ok (.invokespecial 1, 3) := by decide +kernel
theorem dsv0_4 : decode jdk_42_method_149_code 4 = .ok (.iload_n 3, 1) := by decide +kernel
theorem dsv0_5 : decode jdk_42_method_149_code 5 = .ok (.ifCond .ne 22, 3) := by decide +kernel
theorem dsv0_8 : decode jdk_42_method_149_code 8 = .ok (.aload_n 0, 1) := by decide +kernel
theorem dsv0_9 : decode jdk_42_method_149_code 9 = .ok (.ldc 7, 2) := by decide +kernel
theorem dsv0_11 : decode jdk_42_method_149_code 11 = .ok (.getfield 9, 3) := by decide +kernel
theorem dsv0_14 : decode jdk_42_method_149_code 14 = .ok (.putfield 9, 3) := by decide +kernel
theorem dsv0_17 : decode jdk_42_method_149_code 17 = .ok (.aload_n 0, 1) := by decide +kernel
theorem dsv0_18 : decode jdk_42_method_149_code 18 = .ok (.ldc 7, 2) := by decide +kernel
theorem dsv0_20 : decode jdk_42_method_149_code 20 = .ok (.getfield 15, 3) := by decide +kernel
theorem dsv0_23 : decode jdk_42_method_149_code 23 = .ok (.putfield 15, 3) := by decide +kernel
theorem dsv0_26 : decode jdk_42_method_149_code 26 = .ok (.return_, 1) := by decide +kernel
theorem dsv0_27 : decode jdk_42_method_149_code 27 = .ok (.getstatic 38, 3) := by decide +kernel
theorem dsv0_30 : decode jdk_42_method_149_code 30 = .ok (.ifCond .eq 28, 3) := by decide +kernel
theorem dsv0_33 : decode jdk_42_method_149_code 33 = .ok (.aload_n 1, 1) := by decide +kernel
theorem dsv0_34 : decode jdk_42_method_149_code 34 = .ok (.iload_n 2, 1) := by decide +kernel
theorem dsv0_35 : decode jdk_42_method_149_code 35 = .ok (.iload_n 3, 1) := by decide +kernel
theorem dsv0_36 : decode jdk_42_method_149_code 36 = .ok (.invokestatic 177, 3) := by decide +kernel
theorem dsv0_39 : decode jdk_42_method_149_code 39 = .ok (.astore 5, 2) := by decide +kernel
theorem dsv0_41 : decode jdk_42_method_149_code 41 = .ok (.aload_n 0, 1) := by decide +kernel
theorem dsv0_42 : decode jdk_42_method_149_code 42 = .ok (.aload 5, 2) := by decide +kernel
theorem dsv0_44 : decode jdk_42_method_149_code 44 = .ok (.iload_n 3, 1) := by decide +kernel
theorem dsv0_45 : decode jdk_42_method_149_code 45 = .ok (.invokestatic 47, 3) := by decide +kernel
theorem dsv0_48 : decode jdk_42_method_149_code 48 = .ok (.putfield 15, 3) := by decide +kernel
theorem dsv0_51 : decode jdk_42_method_149_code 51 = .ok (.aload_n 0, 1) := by decide +kernel
theorem dsv0_52 : decode jdk_42_method_149_code 52 = .ok (.aload 5, 2) := by decide +kernel
theorem dsv0_54 : decode jdk_42_method_149_code 54 = .ok (.putfield 9, 3) := by decide +kernel
theorem dsv0_57 : decode jdk_42_method_149_code 57 = .ok (.return_, 1) := by decide +kernel
theorem dsv0_58 : decode jdk_42_method_149_code 58 = .ok (.aload_n 0, 1) := by decide +kernel
theorem dsv0_59 : decode jdk_42_method_149_code 59 = .ok (.iconst 1, 1) := by decide +kernel
theorem dsv0_60 : decode jdk_42_method_149_code 60 = .ok (.putfield 15, 3) := by decide +kernel
theorem dsv0_63 : decode jdk_42_method_149_code 63 = .ok (.aload_n 0, 1) := by decide +kernel
theorem dsv0_64 : decode jdk_42_method_149_code 64 = .ok (.aload_n 1, 1) := by decide +kernel
theorem dsv0_65 : decode jdk_42_method_149_code 65 = .ok (.iload_n 2, 1) := by decide +kernel
theorem dsv0_66 : decode jdk_42_method_149_code 66 = .ok (.iload_n 3, 1) := by decide +kernel
theorem dsv0_67 : decode jdk_42_method_149_code 67 = .ok (.invokestatic 180, 3) := by decide +kernel
theorem dsv0_70 : decode jdk_42_method_149_code 70 = .ok (.putfield 9, 3) := by decide +kernel
theorem dsv0_73 : decode jdk_42_method_149_code 73 = .ok (.return_, 1) := by decide +kernel
theorem pn_2 : plainName "java/lang/String" = true := by first | (simp [plainName, overriddenIn]; done) | decide +kernel
theorem efsv0 (m : MethodId) (x0 : Addr) (x1 : Addr) (x2 : Int32) (x3 : Int32) : entryFrame m #[(.ref x0), (.ref x1), (.int x2), (.int x3), .null] 6 = mkF m 0 #[.val (.ref x0), .val (.ref x1), .val (.int x2), .val (.int x3), .val .null, .unset] [] := by first | (simp [entryFrame, mkF, argsToLocals, Value.category]; done) | rfl
set_option maxRecDepth 65536 in
set_option maxHeartbeats 40000000 in
theorem rm_sv0 (l : Launch) (Z : State) (a0 : Array Value) (hw : ∀ d ∈ tables_1, d.before a0 Z = true) (ws : List Jvm.Cond) (x1 : Addr) (s1 : Addr) (v0 : Value) (c0v : Value) (h0 : Heap) (n0 : Nat) (Z0 : n0 ≤ h0.size) (hE : EW Z a0 consts_1) (wS : ∀ a ∈ Bundle.stringAtoms, a.before a0 Z = true) (E1 : Exa Z h0 x1 "java/lang/String") (F1 : Fld Z h0 x1 "java/lang/String" "value" "[B" v0) (C1 : Fld Z h0 x1 "java/lang/String" "coder" "B" c0v) (gx : n0 ≤ x1) :
    own_MetH l Z consts_1 ws (⟨"java/lang/String", "<init>", "([CIILjava/lang/Void;)V"⟩ : MethodName) jdk_42_method_149_code 6 none ({ frames := 1, cells := 4, slots := 8, locals := 12 } : Room) #[(.ref x1), (.ref s1), (.int 0), (.int 0), .null] h0 (own_QS Z x1 [] h0 n0) (fun vm => Safe Z consts_1 vm h0 x1) := by
  refine own_bodyH (plainFor_of_name pn_2) hE ?_
  intro p e s m below meth c s₁ hx hby hml hret hlk hown hnm X0 e0 K0 hPv
  have hZ : Z.Warmed39 s.vm := K0.1
  have hml : c.maxLocals = 6 := hml
  have hown : s.vm.findClass "java/lang/String" = some m.cls := hown
  have N0 := Fr.nil n0
  refine own_cast (efsv0 m x1 s1 (0 : Int32) (0 : Int32)) ?_
  show oG p e below _ s₁ (mkF m 0 #[.val (.ref x1), .val (.ref s1), .val (.int 0), .val (.int 0), .val .null, .unset] [])
  refine oS (fun t k => XS.aloadN X0.here hx rfl (hb hby dsv0_0) rfl rfl k) ?_
  show oG p e below _ s₁ (mkF m 1 #[.val (.ref x1), .val (.ref s1), .val (.int 0), .val (.int 0), .val .null, .unset] [(.ref x1)])
  obtain ⟨T1, X1, e1, st1⟩ := initO X0 hx hZ hown (oW hw 15 rfl) (oW hw 16 rfl) (oW hw 17 rfl) e0 (g := (mkF m 1 #[.val (.ref x1), .val (.ref s1), .val (.int 0), .val (.int 0), .val .null, .unset] [(.ref x1)])) rfl (by rw [hml]; rfl) rfl (hb hby dsv0_1) (by decide) (W := 0) (by show 2 * 0 + _ ≤ _; exact Nat.le_of_eq rfl) (by decide)
  refine oS st1 ?_
  show oG p e below _ T1 (mkF m 4 #[.val (.ref x1), .val (.ref s1), .val (.int 0), .val (.int 0), .val .null, .unset] [])
  refine oS (fun t k => XS.iloadN X1.here hx rfl (hb hby dsv0_4) rfl  k) ?_
  show oG p e below _ T1 (mkF m 5 #[.val (.ref x1), .val (.ref s1), .val (.int 0), .val (.int 0), .val .null, .unset] [(.int 0)])
  refine oS (fun t k => XS.ifNo X1.here hx rfl (hb hby dsv0_5) rfl ((if0 _ _).trans (teq (rfl : (0 : Int32) = 0)).2) k) ?_
  show oG p e below _ T1 (mkF m 8 #[.val (.ref x1), .val (.ref s1), .val (.int 0), .val (.int 0), .val .null, .unset] [])
  refine oS (fun t k => XS.aloadN X1.here hx rfl (hb hby dsv0_8) rfl rfl k) ?_
  show oG p e below _ T1 (mkF m 9 #[.val (.ref x1), .val (.ref s1), .val (.int 0), .val (.int 0), .val .null, .unset] [(.ref x1)])
  refine own_ldc X1 hx K0 (text := "") hown (oW hw 18 rfl) wS e1 (by decide) (vs := []) (z := (0 : Int32)) ⟨by decide, by decide⟩ (by decide) rfl (g := (mkF m 9 #[.val (.ref x1), .val (.ref s1), .val (.int 0), .val (.int 0), .val .null, .unset] [(.ref x1)])) rfl (hb hby dsv0_9) (n := 0) (by decide) (by decide) (by decide) (by decide) (fun a9 T9 b9 kb9 X9 E9 K9 hown9 R9 LE9 LC9 LV9 LA9 SF9 => ?_)
  show oG p e below _ T9 (mkF m 11 #[.val (.ref x1), .val (.ref s1), .val (.int 0), .val (.int 0), .val .null, .unset] [(.ref a9), (.ref x1)])
  have S9 := R9.safe E1.lt hPv
  have x9 := SF9 x1 S9
  have E9' := E1.ext E9
  have F9' := F1.ext E9
  have C9' := C1.ext E9
  obtain ⟨T11, X11, e11, st11⟩ := getF X9 hx K9.1 hown9 (host := "") (Or.inl (oW hw 24 rfl)) Via.refl rfl LV9 (g := (mkF m 11 #[.val (.ref x1), .val (.ref s1), .val (.int 0), .val (.int 0), .val .null, .unset] [(.ref a9), (.ref x1)])) rfl rfl (hb hby dsv0_11)
  refine oS st11 ?_
  show oG p e below _ T11 (mkF m 14 #[.val (.ref x1), .val (.ref s1), .val (.int 0), .val (.int 0), .val .null, .unset] [(.ref b9), (.ref x1)])
  obtain ⟨T14, h14, X14, e14, W14, st14⟩ := putF X11 hx K9.1 hown9 (host := "") (Or.inl (oW hw 24 rfl)) Via.refl e11 F9' E9' (Or.inr ⟨(oW hw 20 rfl), rfl, hnm⟩) (oW hw 5 rfl) (ty := (.array .byte)) (by decide) rfl rfl (g := (mkF m 14 #[.val (.ref x1), .val (.ref s1), .val (.int 0), .val (.int 0), .val .null, .unset] [(.ref b9), (.ref x1)])) rfl rfl (hb hby dsv0_14)
  refine oS st14 ?_
  have N14 := Fr.snoc X14 N0 gx
  have E14_o := E9'.wr W14
  have F14_value := F9'.same W14
  have F14_coder := C9'.other W14 (Or.inr (slot_ne (Or.inr (oW hw 21 rfl)) (Or.inr (oW hw 20 rfl)) (by decide) (t := .byte) (t' := (.array .byte)) (by decide) (by decide)))
  show oG p e below _ T14 (mkF m 17 #[.val (.ref x1), .val (.ref s1), .val (.int 0), .val (.int 0), .val .null, .unset] [])
  have K14 := K9.wr W14 S9
  have S14 := Safe.wr W14 S9 K9.2.2.1.1 S9
  have LA14 := LA9.other W14 x9.2.symm
  have EE14 : Keep h0 h14 [x1] := ((Keep.refl h0 [x1]).ext E9).wr W14 (Or.inl (List.mem_of_getElem? (i := 0) rfl))
  refine oS (fun t k => XS.aloadN X14.here hx rfl (hb hby dsv0_17) rfl rfl k) ?_
  show oG p e below _ T14 (mkF m 18 #[.val (.ref x1), .val (.ref s1), .val (.int 0), .val (.int 0), .val .null, .unset] [(.ref x1)])
  refine own_ldc X14 hx K14 (text := "") hown9 (oW hw 18 rfl) wS e14 (by decide) (vs := []) (z := (0 : Int32)) ⟨by decide, by decide⟩ (by decide) rfl (g := (mkF m 18 #[.val (.ref x1), .val (.ref s1), .val (.int 0), .val (.int 0), .val .null, .unset] [(.ref x1)])) rfl (hb hby dsv0_18) (n := 0) (by decide) (by decide) (by decide) (by decide) (fun a18 T18 b18 kb18 X18 E18 K18 hown18 R18 LE18 LC18 LV18 LA18 SF18 => ?_)
  show oG p e below _ T18 (mkF m 20 #[.val (.ref x1), .val (.ref s1), .val (.int 0), .val (.int 0), .val .null, .unset] [(.ref a18), (.ref x1)])
  have S18 := R18.safe E14_o.lt S14
  obtain ⟨T20, X20, e20, st20⟩ := getF X18 hx K18.1 hown18 (host := "") (Or.inl (oW hw 25 rfl)) Via.refl rfl LC18 (g := (mkF m 20 #[.val (.ref x1), .val (.ref s1), .val (.int 0), .val (.int 0), .val .null, .unset] [(.ref a18), (.ref x1)])) rfl rfl (hb hby dsv0_20)
  refine oS st20 ?_
  show oG p e below _ T20 (mkF m 23 #[.val (.ref x1), .val (.ref s1), .val (.int 0), .val (.int 0), .val .null, .unset] [(.int 0), (.ref x1)])
  obtain ⟨T23, h23, X23, e23, W23, st23⟩ := putFN X20 hx K18.1 hown18 (oW hw 25 rfl) Via.refl e20 (F14_coder.ext E18) (E14_o.ext E18) (Or.inr ⟨(oW hw 21 rfl), rfl, hnm⟩) (oW hw 5 rfl) (ty := .byte) (v' := (.int 0)) (by decide) rfl rfl (g := (mkF m 23 #[.val (.ref x1), .val (.ref s1), .val (.int 0), .val (.int 0), .val .null, .unset] [(.int 0), (.ref x1)])) rfl rfl (hb hby dsv0_23)
  refine oS st23 ?_
  have N23 := Fr.snoc X23 N14 gx
  have E23_o := (E14_o.ext E18).wr W23
  have F23_value := (F14_value.ext E18).other W23 (Or.inr (slot_ne (Or.inr (oW hw 20 rfl)) (Or.inr (oW hw 21 rfl)) (by decide) (t := (.array .byte)) (t' := .byte) (by decide) (by decide)))
  have F23_coder := (F14_coder.ext E18).same W23
  show oG p e below _ T23 (mkF m 26 #[.val (.ref x1), .val (.ref s1), .val (.int 0), .val (.int 0), .val .null, .unset] [])
  have K23 := K18.wr W23 S18
  have LA23 := (LA14.ext E18).other W23 x9.2.symm
  refine own_retHV X23 K23 e23 hx hlk hret (hb hby dsv0_26) ?_ (by decide) (by decide)
  exact ⟨rfl, N23, (EE14.ext E18).wr W23 (Or.inl (List.mem_of_getElem? (i := 0) rfl)), b9, kb9, 0, (0 : Int32), _, E23_o, F23_value, F23_coder, LA23, Or.inl ⟨rfl, rfl, rfl, fun c hc => nomatch hc⟩⟩
theorem dsn0_0 : decode jdk_42_method_3_code 0 = .ok (.aload_n 0, 1) := by decide +kernel
theorem dsn0_1 : decode jdk_42_method_3_code 1 = .ok (.aload_n 1, 1) := by decide +kernel
theorem dsn0_2 : decode jdk_42_method_3_code 2 = .ok (.iconst 0, 1) := by decide +kernel
theorem dsn0_3 : decode jdk_42_method_3_code 3 = .ok (.aload_n 1, 1) := by decide +kernel
theorem dsn0_4 : decode jdk_42_method_3_code 4 = .ok (.arraylength, 1) := by decide +kernel
theorem dsn0_5 : decode jdk_42_method_3_code 5 = .ok (.aconst_null, 1) := by decide +kernel
theorem dsn0_6 : decode jdk_42_method_3_code 6 = .ok (.invokespecial 27, 3) := by decide +kernel
theorem dsn0_9 : decode jdk_42_method_3_code 9 = .ok (.return_, 1) := by decide +kernel
theorem efsn0 (m : MethodId) (x0 : Addr) (x1 : Addr) : entryFrame m #[(.ref x0), (.ref x1)] 2 = mkF m 0 #[.val (.ref x0), .val (.ref x1)] [] := by first | (simp [entryFrame, mkF, argsToLocals, Value.category]; done) | rfl
theorem pd_4 : parseMethodDescriptor "([CIILjava/lang/Void;)V" = some ⟨[(.array .char), .int, .int, (.object "java/lang/Void")], none⟩ := by decide +kernel
set_option maxRecDepth 65536 in
set_option maxHeartbeats 40000000 in
theorem rm_s0 (l : Launch) (Z : State) (a0 : Array Value) (hw : ∀ d ∈ tables_1, d.before a0 Z = true) (ws : List Jvm.Cond) (x1 : Addr) (s1 : Addr) (ks : ClassId) (ds : Value) (v0 : Value) (c0v : Value) (h0 : Heap) (n0 : Nat) (Z0 : n0 ≤ h0.size) (hE : EW Z a0 consts_1) (wS : ∀ a ∈ Bundle.stringAtoms, a.before a0 Z = true) (E1 : Exa Z h0 x1 "java/lang/String") (F1 : Fld Z h0 x1 "java/lang/String" "value" "[B" v0) (C1 : Fld Z h0 x1 "java/lang/String" "coder" "B" c0v) (gx : n0 ≤ x1) (V1 : Arv Z h0 s1 ks .char (0 : Int32) [] ds) :
    own_MetH l Z consts_1 ws (⟨"java/lang/String", "<init>", "([C)V"⟩ : MethodName) jdk_42_method_3_code 2 none ({ frames := 2, cells := 4, slots := 8, locals := 30 } : Room) #[(.ref x1), (.ref s1)] h0 (own_QS Z x1 [] h0 n0) (fun vm => Safe Z consts_1 vm h0 x1) := by
  refine own_bodyH (plainFor_of_name pn_2) hE ?_
  intro p e s m below meth c s₁ hx hby hml hret hlk hown hnm X0 e0 K0 hPv
  have hZ : Z.Warmed39 s.vm := K0.1
  have hml : c.maxLocals = 2 := hml
  have hown : s.vm.findClass "java/lang/String" = some m.cls := hown
  have N0 := Fr.nil n0
  refine own_cast (efsn0 m x1 s1) ?_
  show oG p e below _ s₁ (mkF m 0 #[.val (.ref x1), .val (.ref s1)] [])
  refine oS (fun t k => XS.aloadN X0.here hx rfl (hb hby dsn0_0) rfl rfl k) ?_
  refine oS (fun t k => XS.aloadN X0.here hx rfl (hb hby dsn0_1) rfl rfl k) ?_
  refine oS (fun t k => XS.iconst X0.here hx rfl (hb hby dsn0_2) k) ?_
  refine oS (fun t k => XS.aloadN X0.here hx rfl (hb hby dsn0_3) rfl rfl k) ?_
  show oG p e below _ s₁ (mkF m 4 #[.val (.ref x1), .val (.ref s1)] [(.ref s1), (.int 0), (.ref s1), (.ref x1)])
  obtain ⟨cl4, Ar4, -, S4, M4, -, -⟩ := id V1
  refine oS (X0.arraylength hx (by rw [e0]; exact Ar4.1) (State.isArrayOf_alike hZ.alike Ar4.2.1) (g := (mkF m 4 #[.val (.ref x1), .val (.ref s1)] [(.ref s1), (.int 0), (.ref s1), (.ref x1)])) rfl rfl (hb hby dsn0_4)) ?_
  rw [len_of S4 M4]
  show oG p e below _ s₁ (mkF m 5 #[.val (.ref x1), .val (.ref s1)] [(.int 0), (.int 0), (.ref s1), (.ref x1)])
  refine oS (fun t k => XS.aconstNull X0.here hx rfl (hb hby dsn0_5) k) ?_
  show oG p e below _ s₁ (mkF m 6 #[.val (.ref x1), .val (.ref s1)] [.null, (.int 0), (.int 0), (.ref s1), (.ref x1)])
  refine own_callIH X0 hx K0 (y := (⟨"java/lang/String", "<init>", "([CIILjava/lang/Void;)V"⟩ : MethodName)) (W := 0) (kc := 4) (ks := 8) rfl hown (oW hw 11 rfl) (oW hw 12 rfl) (oW hw 14 rfl) (own_backH (W := 0) (rm_sv0 l Z a0 hw [] x1 s1 v0 c0v h0 n0 Z0 hE wS E1 F1 C1 gx) K0 (fun vm' r => r.safe E1.lt hPv) (oW hw 14 rfl) (oW hw 6 rfl) (by decide) (by decide)) (by decide) (g := (mkF m 6 #[.val (.ref x1), .val (.ref s1)] [.null, (.int 0), (.int 0), (.ref s1), (.ref x1)])) rfl (by rw [hml]; rfl) (a := x1) (argsL := [(.ref s1), (.int 0), (.int 0), .null]) (rest := []) (lenOf pd_4 rfl) rfl (by show 2 * 0 + _ ≤ _; exact Nat.le_of_eq rfl) (hb hby dsn0_6) rfl e0 (by decide) (by decide) (fun v6 T6 L6 X6 hQ6 K6 hown6 R6 => ?_)
  obtain ⟨rfl, M6, KP6, ST6⟩ := hQ6
  show oG p e below _ T6 (mkF m 9 #[.val (.ref x1), .val (.ref s1)] [])
  refine own_retHV X6 K6 rfl hx hlk hret (hb hby dsn0_9) ?_ (by decide) (by decide)
  exact ⟨rfl, Fr.app N0 M6, KP6, ST6⟩
theorem dmk_0 : decode method_2_code 0 = .ok (.iload_n 0, 1) := by decide +kernel
theorem dmk_1 : decode method_2_code 1 = .ok (.ifCond .ne 14, 3) := by decide +kernel
theorem dmk_4 : decode method_2_code 4 = .ok (.new 7, 3) := by decide +kernel
theorem dmk_7 : decode method_2_code 7 = .ok (.dup, 1) := by decide +kernel
theorem dmk_8 : decode method_2_code 8 = .ok (.iconst 0, 1) := by decide +kernel
theorem dmk_9 : decode method_2_code 9 = .ok (.newarray .char, 2) := by decide +kernel
theorem dmk_11 : decode method_2_code 11 = .ok (.invokespecial 9, 3) := by decide +kernel
theorem dmk_14 : decode method_2_code 14 = .ok (.areturn, 1) := by decide +kernel
theorem dmk_15 : decode method_2_code 15 = .ok (.iload_n 0, 1) := by decide +kernel
theorem dmk_16 : decode method_2_code 16 = .ok (.iconst 1, 1) := by decide +kernel
theorem dmk_17 : decode method_2_code 17 = .ok (.if_icmp .ne 18, 3) := by decide +kernel
theorem dmk_20 : decode method_2_code 20 = .ok (.new 7, 3) := by decide +kernel
theorem dmk_23 : decode method_2_code 23 = .ok (.dup, 1) := by decide +kernel
theorem dmk_24 : decode method_2_code 24 = .ok (.iconst 1, 1) := by decide +kernel
theorem dmk_25 : decode method_2_code 25 = .ok (.newarray .char, 2) := by decide +kernel
theorem dmk_27 : decode method_2_code 27 = .ok (.dup, 1) := by decide +kernel
theorem dmk_28 : decode method_2_code 28 = .ok (.iconst 0, 1) := by decide +kernel
theorem dmk_29 : decode method_2_code 29 = .ok (.iload_n 1, 1) := by decide +kernel
theorem dmk_30 : decode method_2_code 30 = .ok (.castore, 1) := by decide +kernel
theorem dmk_31 : decode method_2_code 31 = .ok (.invokespecial 9, 3) := by decide +kernel
theorem dmk_34 : decode method_2_code 34 = .ok (.areturn, 1) := by decide +kernel
theorem dmk_35 : decode method_2_code 35 = .ok (.iload_n 0, 1) := by decide +kernel
theorem dmk_36 : decode method_2_code 36 = .ok (.iconst 2, 1) := by decide +kernel
theorem dmk_37 : decode method_2_code 37 = .ok (.if_icmp .ne 22, 3) := by decide +kernel
theorem dmk_40 : decode method_2_code 40 = .ok (.new 7, 3) := by decide +kernel
theorem dmk_43 : decode method_2_code 43 = .ok (.dup, 1) := by decide +kernel
theorem dmk_44 : decode method_2_code 44 = .ok (.iconst 2, 1) := by decide +kernel
theorem dmk_45 : decode method_2_code 45 = .ok (.newarray .char, 2) := by decide +kernel
theorem dmk_47 : decode method_2_code 47 = .ok (.dup, 1) := by decide +kernel
theorem dmk_48 : decode method_2_code 48 = .ok (.iconst 0, 1) := by decide +kernel
theorem dmk_49 : decode method_2_code 49 = .ok (.iload_n 1, 1) := by decide +kernel
theorem dmk_50 : decode method_2_code 50 = .ok (.castore, 1) := by decide +kernel
theorem dmk_51 : decode method_2_code 51 = .ok (.dup, 1) := by decide +kernel
theorem dmk_52 : decode method_2_code 52 = .ok (.iconst 1, 1) := by decide +kernel
theorem dmk_53 : decode method_2_code 53 = .ok (.iload_n 2, 1) := by decide +kernel
theorem dmk_54 : decode method_2_code 54 = .ok (.castore, 1) := by decide +kernel
theorem dmk_55 : decode method_2_code 55 = .ok (.invokespecial 9, 3) := by decide +kernel
theorem dmk_58 : decode method_2_code 58 = .ok (.areturn, 1) := by decide +kernel
theorem dmk_59 : decode method_2_code 59 = .ok (.new 7, 3) := by decide +kernel
theorem dmk_62 : decode method_2_code 62 = .ok (.dup, 1) := by decide +kernel
theorem dmk_63 : decode method_2_code 63 = .ok (.iconst 3, 1) := by decide +kernel
theorem dmk_64 : decode method_2_code 64 = .ok (.newarray .char, 2) := by decide +kernel
theorem dmk_66 : decode method_2_code 66 = .ok (.dup, 1) := by decide +kernel
theorem dmk_67 : decode method_2_code 67 = .ok (.iconst 0, 1) := by decide +kernel
theorem dmk_68 : decode method_2_code 68 = .ok (.iload_n 1, 1) := by decide +kernel
theorem dmk_69 : decode method_2_code 69 = .ok (.castore, 1) := by decide +kernel
theorem dmk_70 : decode method_2_code 70 = .ok (.dup, 1) := by decide +kernel
theorem dmk_71 : decode method_2_code 71 = .ok (.iconst 1, 1) := by decide +kernel
theorem dmk_72 : decode method_2_code 72 = .ok (.iload_n 2, 1) := by decide +kernel
theorem dmk_73 : decode method_2_code 73 = .ok (.castore, 1) := by decide +kernel
theorem dmk_74 : decode method_2_code 74 = .ok (.dup, 1) := by decide +kernel
theorem dmk_75 : decode method_2_code 75 = .ok (.iconst 2, 1) := by decide +kernel
theorem dmk_76 : decode method_2_code 76 = .ok (.iload_n 3, 1) := by decide +kernel
theorem dmk_77 : decode method_2_code 77 = .ok (.castore, 1) := by decide +kernel
theorem dmk_78 : decode method_2_code 78 = .ok (.invokespecial 9, 3) := by decide +kernel
theorem dmk_81 : decode method_2_code 81 = .ok (.areturn, 1) := by decide +kernel
theorem pn_3 : plainName "com/example/rank3/rank3/graph/TermBlankNodePinLaw" = true := by first | (simp [plainName, overriddenIn]; done) | decide +kernel
theorem efmk (m : MethodId) (x0 : Int32) (x1 : Int32) (x2 : Int32) (x3 : Int32) : entryFrame m #[(.int x0), (.int x1), (.int x2), (.int x3)] 4 = mkF m 0 #[.val (.int x0), .val (.int x1), .val (.int x2), .val (.int x3)] [] := by first | (simp [entryFrame, mkF, argsToLocals, Value.category]; done) | rfl
theorem pd_5 : parseMethodDescriptor "([C)V" = some ⟨[(.array .char)], none⟩ := by decide +kernel
set_option maxRecDepth 65536 in
set_option maxHeartbeats 40000000 in
theorem rm_mk (l : Launch) (Z : State) (a0 : Array Value) (hw : ∀ d ∈ tables_1, d.before a0 Z = true) (ws : List Jvm.Cond) (n : Nat) (x1 : Int32) (y1 : Int32) (z1 : Int32) (CS : Int32) (h0 : Heap) (n0 : Nat) (Z0 : n0 ≤ h0.size) (hE : EW Z a0 consts_1) (wS : ∀ a ∈ Bundle.stringAtoms, a.before a0 Z = true) (hn : n ≤ 3) (hcx : ¬ x1 < 0 ∧ ¬ (255 : Int32) < x1) (hcy : ¬ y1 < 0 ∧ ¬ (255 : Int32) < y1) (hcz : ¬ z1 < 0 ∧ ¬ (255 : Int32) < z1) (SC : Sta Z Z.heap "java/lang/String" "COMPACT_STRINGS" "Z" (.int CS)) (hCS : ¬ CS = 0) (O0 : Old Z n0 h0) :
    own_MetH l Z consts_1 ws (⟨"com/example/rank3/rank3/graph/TermBlankNodePinLaw", "mk", "(ICCC)Ljava/lang/String;"⟩ : MethodName) method_2_code 4 (some (.object "java/lang/String")) ({ frames := 5, cells := 6, slots := 16, locals := 100 } : Room) #[(.int (Int32.ofNat n)), (.int x1), (.int y1), (.int z1)] h0 (fun v h L => ∃ a : Addr, v = some (.ref a) ∧ Fr n0 L ∧ Keep h0 h [] ∧ n0 ≤ a ∧ own_Lat Z h a (own_cs n x1 y1 z1)) (fun _ => True) := by
  refine own_bodyH (plainFor_of_name pn_3) hE ?_
  intro p e s m below meth c s₁ hx hby hml hret hlk hown hnm X0 e0 K0 hPv
  have hZ : Z.Warmed39 s.vm := K0.1
  have hml : c.maxLocals = 4 := hml
  have hown : s.vm.findClass "com/example/rank3/rank3/graph/TermBlankNodePinLaw" = some m.cls := hown
  have N0 := Fr.nil n0
  have hws : ∀ d ∈ StrChars.Road.words, d.before a0 Z = true := fun d hd => hw d ((by decide +kernel : ∀ d ∈ StrChars.Road.words, d ∈ tables_1) d hd)
  refine own_cast (efmk m (Int32.ofNat n) x1 y1 z1) ?_
  show oG p e below _ s₁ (mkF m 0 #[.val (.int (Int32.ofNat n)), .val (.int x1), .val (.int y1), .val (.int z1)] [])
  obtain rfl | rfl | rfl | rfl : n = 0 ∨ n = 1 ∨ n = 2 ∨ n = 3 := by omega
  · show oG p e below _ s₁ (mkF m 0 #[.val (.int 0), .val (.int x1), .val (.int y1), .val (.int z1)] [])
    refine oS (fun t k => XS.iloadN X0.here hx rfl (hb hby dmk_0) rfl  k) ?_
    show oG p e below _ s₁ (mkF m 1 #[.val (.int 0), .val (.int x1), .val (.int y1), .val (.int z1)] [(.int 0)])
    refine oS (fun t k => XS.ifNo X0.here hx rfl (hb hby dmk_1) rfl ((if0 _ _).trans (teq (rfl : (0 : Int32) = 0)).2) k) ?_
    show oG p e below _ s₁ (mkF m 4 #[.val (.int 0), .val (.int x1), .val (.int y1), .val (.int z1)] [])
    obtain ⟨T4, h4, X4, e4, E4, A4, D4, -, st4⟩ := newO X0 hx hZ hown (oW hw 4 rfl) (oW hw 5 rfl) (oW hw 6 rfl) e0 (g := (mkF m 4 #[.val (.int 0), .val (.int x1), .val (.int y1), .val (.int z1)] [])) rfl (hb hby dmk_4) (by decide) (by decide)
    obtain ⟨b4, g4⟩ : ∃ z, z = h0.size := ⟨_, rfl⟩
    rw [← g4] at A4 D4 st4
    have F4_value : Fld Z h4 b4 "java/lang/String" "value" "[B" .null := D4 (Or.inr (oW hw 20 rfl)) (ty := (.array .byte)) (by decide)
    have F4_coder : Fld Z h4 b4 "java/lang/String" "coder" "B" (.int 0) := D4 (Or.inr (oW hw 21 rfl)) (ty := .byte) (by decide)
    refine oS st4 ?_
    show oG p e below _ T4 (mkF m 7 #[.val (.int 0), .val (.int x1), .val (.int y1), .val (.int z1)] [(.ref b4)])
    have SB := Safe.ext E4 K0.2.2.1.1 (Safe.new (Nat.le_of_eq g4.symm))
    have Op := O0.ext E4
    have Zp : n0 ≤ h4.size := Nat.le_trans Z0 E4.1
    have gs : n0 ≤ b4 := Nat.le_trans Z0 (Nat.le_of_eq g4.symm)
    have zs : h0.size ≤ b4 := Nat.le_of_eq g4.symm
    have KP : Keep h0 h4 [] := (Keep.refl h0 []).ext E4
    have K4 := K0.ext E4
    refine oS (fun t k => XS.dup X4.here hx rfl (hb hby dmk_7) rfl rfl k) ?_
    refine oS (fun t k => XS.iconst X4.here hx rfl (hb hby dmk_8) k) ?_
    show oG p e below _ T4 (mkF m 9 #[.val (.int 0), .val (.int x1), .val (.int y1), .val (.int z1)] [(.int 0), (.ref b4), (.ref b4)])
    obtain ⟨T9, h9, k9, X9, e9, E9, A9, st9⟩ := newP X4 hx hZ (oW hw 7 rfl) e4 (g := (mkF m 9 #[.val (.int 0), .val (.int x1), .val (.int y1), .val (.int z1)] [(.int 0), (.ref b4), (.ref b4)])) rfl (hb hby dmk_9) rfl (by decide) (cap := 0) (by decide) (by decide) (by decide) (by decide)
    obtain ⟨b9, g9⟩ : ∃ z, z = h4.size := ⟨_, rfl⟩
    rw [← g9] at A9 st9
    have V9 : Arv Z h9 b9 k9 .char (0 : Int32) [] (.int 0) := (Arv.new A9 (by decide)).pad (pad_rep [] (.int 0) 0)
    refine oS st9 ?_
    show oG p e below _ T9 (mkF m 11 #[.val (.int 0), .val (.int x1), .val (.int y1), .val (.int z1)] [(.ref b9), (.ref b4), (.ref b4)])
    have SQ := Safe.ext E9 K4.2.2.1.1 (Safe.new (Nat.le_of_eq g9.symm))
    have SB := Safe.ext E9 K4.2.2.1.1 SB
    have Oq := Op.ext E9
    have Zq : n0 ≤ h9.size := Nat.le_trans Zp E9.1
    have gq : n0 ≤ b9 := Nat.le_trans Zp (Nat.le_of_eq g9.symm)
    have zq : h0.size ≤ b9 := Nat.le_trans KP.1 (Nat.le_of_eq g9.symm)
    have ne : b4 ≠ b9 := Nat.ne_of_lt (Nat.lt_of_lt_of_le A4.lt (Nat.le_of_eq g9.symm))
    have EX := A4.ext E9
    have FV := F4_value.ext E9
    have FC := F4_coder.ext E9
    have KP := KP.ext E9
    have K9 := K4.ext E9
    refine own_callIH X9 hx K9 (y := (⟨"java/lang/String", "<init>", "([C)V"⟩ : MethodName)) (W := 1) (kc := 4) (ks := 8) rfl hown (oW hw 8 rfl) (oW hw 9 rfl) (oW hw 10 rfl) (own_backH (W := 1) (rm_s0 l Z a0 hw [] b4 b9 k9 _ _ _ h9 n0 Zq hE wS EX FV FC gs V9) K9 (fun vm' r => r.safe EX.lt SB) (oW hw 10 rfl) (oW hw 6 rfl) (by decide) (by decide)) (by decide) (g := (mkF m 11 #[.val (.int 0), .val (.int x1), .val (.int y1), .val (.int z1)] [(.ref b9), (.ref b4), (.ref b4)])) rfl (by rw [hml]; rfl) (a := b4) (argsL := [(.ref b9)]) (rest := [(.ref b4)]) (lenOf pd_5 rfl) rfl (by show 2 * 0 + _ ≤ _; exact Nat.le_of_eq rfl) (hb hby dmk_11) rfl e9 (by decide) (by decide) (fun vC TC LC XC hQC KC hownC RC => ?_)
    obtain ⟨rfl, MC, KC', SS⟩ := hQC
    have LL := own_lat0 SS
    show oG p e below _ TC (mkF m 14 #[.val (.int 0), .val (.int x1), .val (.int y1), .val (.int z1)] [(.ref b4)])
    refine own_retHA XC KC rfl hx hlk hret rfl rfl (hb hby dmk_14) ?_ (by decide) (by decide)
    exact ⟨b4, rfl, Fr.app N0 MC, KP.trans KC' (allS (Or.inr zs) all0), gs, LL⟩
  · show oG p e below _ s₁ (mkF m 0 #[.val (.int 1), .val (.int x1), .val (.int y1), .val (.int z1)] [])
    refine oS (fun t k => XS.iloadN X0.here hx rfl (hb hby dmk_0) rfl  k) ?_
    show oG p e below _ s₁ (mkF m 1 #[.val (.int 1), .val (.int x1), .val (.int y1), .val (.int z1)] [(.int 1)])
    refine oS (fun t k => XS.ifYes X0.here hx rfl (pc0 := 1) (pc' := 15) rfl (hb hby dmk_1) rfl ((if0 _ _).trans (feq (by decide : ¬ (1 : Int32) = 0)).2) (by decide) (by decide) k) ?_
    show oG p e below _ s₁ (mkF m 15 #[.val (.int 1), .val (.int x1), .val (.int y1), .val (.int z1)] [])
    refine oS (fun t k => XS.iloadN X0.here hx rfl (hb hby dmk_15) rfl  k) ?_
    refine oS (fun t k => XS.iconst X0.here hx rfl (hb hby dmk_16) k) ?_
    show oG p e below _ s₁ (mkF m 17 #[.val (.int 1), .val (.int x1), .val (.int y1), .val (.int z1)] [(.int 1), (.int 1)])
    refine oS (fun t k => XS.icmpNo X0.here hx rfl (hb hby dmk_17) rfl (teq (rfl : (1 : Int32) = 1)).2 k) ?_
    show oG p e below _ s₁ (mkF m 20 #[.val (.int 1), .val (.int x1), .val (.int y1), .val (.int z1)] [])
    obtain ⟨T20, h20, X20, e20, E20, A20, D20, -, st20⟩ := newO X0 hx hZ hown (oW hw 4 rfl) (oW hw 5 rfl) (oW hw 6 rfl) e0 (g := (mkF m 20 #[.val (.int 1), .val (.int x1), .val (.int y1), .val (.int z1)] [])) rfl (hb hby dmk_20) (by decide) (by decide)
    obtain ⟨b20, g20⟩ : ∃ z, z = h0.size := ⟨_, rfl⟩
    rw [← g20] at A20 D20 st20
    have F20_value : Fld Z h20 b20 "java/lang/String" "value" "[B" .null := D20 (Or.inr (oW hw 20 rfl)) (ty := (.array .byte)) (by decide)
    have F20_coder : Fld Z h20 b20 "java/lang/String" "coder" "B" (.int 0) := D20 (Or.inr (oW hw 21 rfl)) (ty := .byte) (by decide)
    refine oS st20 ?_
    show oG p e below _ T20 (mkF m 23 #[.val (.int 1), .val (.int x1), .val (.int y1), .val (.int z1)] [(.ref b20)])
    have SB := Safe.ext E20 K0.2.2.1.1 (Safe.new (Nat.le_of_eq g20.symm))
    have Op := O0.ext E20
    have Zp : n0 ≤ h20.size := Nat.le_trans Z0 E20.1
    have gs : n0 ≤ b20 := Nat.le_trans Z0 (Nat.le_of_eq g20.symm)
    have zs : h0.size ≤ b20 := Nat.le_of_eq g20.symm
    have KP : Keep h0 h20 [] := (Keep.refl h0 []).ext E20
    have K20 := K0.ext E20
    refine oS (fun t k => XS.dup X20.here hx rfl (hb hby dmk_23) rfl rfl k) ?_
    refine oS (fun t k => XS.iconst X20.here hx rfl (hb hby dmk_24) k) ?_
    show oG p e below _ T20 (mkF m 25 #[.val (.int 1), .val (.int x1), .val (.int y1), .val (.int z1)] [(.int 1), (.ref b20), (.ref b20)])
    obtain ⟨T25, h25, k25, X25, e25, E25, A25, st25⟩ := newP X20 hx hZ (oW hw 7 rfl) e20 (g := (mkF m 25 #[.val (.int 1), .val (.int x1), .val (.int y1), .val (.int z1)] [(.int 1), (.ref b20), (.ref b20)])) rfl (hb hby dmk_25) rfl (by decide) (cap := 1) (by decide) (by decide) (by decide) (by decide)
    obtain ⟨b25, g25⟩ : ∃ z, z = h20.size := ⟨_, rfl⟩
    rw [← g25] at A25 st25
    have V25 : Arv Z h25 b25 k25 .char (1 : Int32) [(.int 0)] (.int 0) := (Arv.new A25 (by decide)).pad (pad_rep [] (.int 0) 1)
    refine oS st25 ?_
    show oG p e below _ T25 (mkF m 27 #[.val (.int 1), .val (.int x1), .val (.int y1), .val (.int z1)] [(.ref b25), (.ref b20), (.ref b20)])
    have SQ := Safe.ext E25 K20.2.2.1.1 (Safe.new (Nat.le_of_eq g25.symm))
    have SB := Safe.ext E25 K20.2.2.1.1 SB
    have Oq := Op.ext E25
    have Zq : n0 ≤ h25.size := Nat.le_trans Zp E25.1
    have gq : n0 ≤ b25 := Nat.le_trans Zp (Nat.le_of_eq g25.symm)
    have zq : h0.size ≤ b25 := Nat.le_trans KP.1 (Nat.le_of_eq g25.symm)
    have ne : b20 ≠ b25 := Nat.ne_of_lt (Nat.lt_of_lt_of_le A20.lt (Nat.le_of_eq g25.symm))
    have EX := A20.ext E25
    have FV := F20_value.ext E25
    have FC := F20_coder.ext E25
    have KP := KP.ext E25
    have K25 := K20.ext E25
    refine oS (fun t k => XS.dup X25.here hx rfl (hb hby dmk_27) rfl rfl k) ?_
    refine oS (fun t k => XS.iconst X25.here hx rfl (hb hby dmk_28) k) ?_
    refine oS (fun t k => XS.iloadN X25.here hx rfl (hb hby dmk_29) rfl  k) ?_
    show oG p e below _ T25 (mkF m 30 #[.val (.int 1), .val (.int x1), .val (.int y1), .val (.int z1)] [(.int x1), (.int 0), (.ref b25), (.ref b25), (.ref b20), (.ref b20)])
    obtain ⟨cl30, Ar30, q30, S30, M30, H30, G30⟩ := V25
    have hin30 : ¬ ((0 : Int32) < 0 ∨ cl30.slots.size ≤ ((0 : Int32)).toNatClampNeg) := inb_of S30 ⟨by decide, by decide⟩
    obtain ⟨T30, h30, X30, e30, W30, st30⟩ := stC X25 hx hZ e25 Ar30 (j := (0 : Int32)) hin30 (g := (mkF m 30 #[.val (.int 1), .val (.int x1), .val (.int y1), .val (.int z1)] [(.int x1), (.int 0), (.ref b25), (.ref b25), (.ref b20), (.ref b20)])) rfl rfl (hb hby dmk_30)
    refine oS st30 ?_
    have V30 := Arv.set Ar30 q30 S30 M30 H30 G30 (fits_nar_char _) W30 0 rfl (Nat.le_of_ble_eq_true rfl)
    have N30 := Fr.snoc X30 N0 gq
    show oG p e below _ T30 (mkF m 31 #[.val (.int 1), .val (.int x1), .val (.int y1), .val (.int z1)] [(.ref b25), (.ref b20), (.ref b20)])
    rw [own_narL hcx] at V30
    have K30 := K25.wr W30 SQ
    have SB := Safe.wr W30 SQ K25.2.2.1.1 SB
    have SQ := Safe.wr W30 SQ K25.2.2.1.1 SQ
    have Oq := Oq.wr W30 gq
    have Zq : n0 ≤ h30.size := Nat.le_trans Zq (Keep.of_wr W30).1
    have EX := EX.wr W30
    have FV := FV.other W30 (Or.inl ne)
    have FC := FC.other W30 (Or.inl ne)
    have KP := KP.wr W30 (Or.inr zq)
    have hp : ∀ c ∈ ([x1] : List Int32), ¬ c < 0 ∧ ¬ (255 : Int32) < c := by
      intro c hc
      simp only [List.mem_cons, List.not_mem_nil, or_false] at hc
      rcases hc with rfl
      · exact hcx
    refine own_callI X30 hx hZ (y := (⟨"java/lang/String", "<init>", "([C)V"⟩ : MethodName)) (W := 1) (Q := (StrChars.Road.QV Z b20 (1 : Int32) (([x1] : List Int32).map (fun c : Int32 => c.toInt8.toInt32)) h30 n0)) (kc := 1) (ks := 1) rfl hown (oW hw 8 rfl) (oW hw 9 rfl) (oW hw 10 rfl) (StrChars.Road.backV (W := 1) (s := s.setVm s.vm) hZ hws (kI := 4) (oW hw 5 rfl) (cs := ([x1] : List Int32)) (bs := ([x1] : List Int32).map (fun c : Int32 => c.toInt8.toInt32)) (n := 1) gs Zq EX FV FC V30 (SC.ext Oq.2) hCS rfl rfl (by decide) (by decide) hp rfl (by decide) (by decide)) (by decide) (g := (mkF m 31 #[.val (.int 1), .val (.int x1), .val (.int y1), .val (.int z1)] [(.ref b25), (.ref b20), (.ref b20)])) rfl (by rw [hml]; rfl) (a := b20) (argsL := [(.ref b25)]) (rest := [(.ref b20)]) (lenOf pd_5 rfl) rfl (by show 2 * 0 + _ ≤ _; exact Nat.le_of_eq rfl) (hb hby dmk_31) rfl e30 (by decide) (by decide) (fun vC TC LC XC hQC => ?_)
    obtain ⟨rfl, MC, KC', q4, q5, t0, kb0, _, _, _, q6, q7⟩ := hQC
    have KC := K30.keep KC' (allS SB all0)
    have LL : own_Lat Z TC.heap b20 ([x1] : List Int32) := ⟨t0, kb0, q4, q6, q5, q7⟩
    show oG p e below _ TC (mkF m 34 #[.val (.int 1), .val (.int x1), .val (.int y1), .val (.int z1)] [(.ref b20)])
    refine own_retHA XC KC rfl hx hlk hret rfl rfl (hb hby dmk_34) ?_ (by decide) (by decide)
    exact ⟨b20, rfl, Fr.app N30 MC, KP.trans KC' (allS (Or.inr zs) all0), gs, LL⟩
  · show oG p e below _ s₁ (mkF m 0 #[.val (.int 2), .val (.int x1), .val (.int y1), .val (.int z1)] [])
    refine oS (fun t k => XS.iloadN X0.here hx rfl (hb hby dmk_0) rfl  k) ?_
    show oG p e below _ s₁ (mkF m 1 #[.val (.int 2), .val (.int x1), .val (.int y1), .val (.int z1)] [(.int 2)])
    refine oS (fun t k => XS.ifYes X0.here hx rfl (pc0 := 1) (pc' := 15) rfl (hb hby dmk_1) rfl ((if0 _ _).trans (feq (by decide : ¬ (2 : Int32) = 0)).2) (by decide) (by decide) k) ?_
    show oG p e below _ s₁ (mkF m 15 #[.val (.int 2), .val (.int x1), .val (.int y1), .val (.int z1)] [])
    refine oS (fun t k => XS.iloadN X0.here hx rfl (hb hby dmk_15) rfl  k) ?_
    refine oS (fun t k => XS.iconst X0.here hx rfl (hb hby dmk_16) k) ?_
    show oG p e below _ s₁ (mkF m 17 #[.val (.int 2), .val (.int x1), .val (.int y1), .val (.int z1)] [(.int 1), (.int 2)])
    refine oS (fun t k => XS.icmpYes X0.here hx rfl (pc0 := 17) (pc' := 35) rfl (hb hby dmk_17) rfl (feq (by decide : ¬ (2 : Int32) = 1)).2 (by decide) (by decide) k) ?_
    show oG p e below _ s₁ (mkF m 35 #[.val (.int 2), .val (.int x1), .val (.int y1), .val (.int z1)] [])
    refine oS (fun t k => XS.iloadN X0.here hx rfl (hb hby dmk_35) rfl  k) ?_
    refine oS (fun t k => XS.iconst X0.here hx rfl (hb hby dmk_36) k) ?_
    show oG p e below _ s₁ (mkF m 37 #[.val (.int 2), .val (.int x1), .val (.int y1), .val (.int z1)] [(.int 2), (.int 2)])
    refine oS (fun t k => XS.icmpNo X0.here hx rfl (hb hby dmk_37) rfl (teq (rfl : (2 : Int32) = 2)).2 k) ?_
    show oG p e below _ s₁ (mkF m 40 #[.val (.int 2), .val (.int x1), .val (.int y1), .val (.int z1)] [])
    obtain ⟨T40, h40, X40, e40, E40, A40, D40, -, st40⟩ := newO X0 hx hZ hown (oW hw 4 rfl) (oW hw 5 rfl) (oW hw 6 rfl) e0 (g := (mkF m 40 #[.val (.int 2), .val (.int x1), .val (.int y1), .val (.int z1)] [])) rfl (hb hby dmk_40) (by decide) (by decide)
    obtain ⟨b40, g40⟩ : ∃ z, z = h0.size := ⟨_, rfl⟩
    rw [← g40] at A40 D40 st40
    have F40_value : Fld Z h40 b40 "java/lang/String" "value" "[B" .null := D40 (Or.inr (oW hw 20 rfl)) (ty := (.array .byte)) (by decide)
    have F40_coder : Fld Z h40 b40 "java/lang/String" "coder" "B" (.int 0) := D40 (Or.inr (oW hw 21 rfl)) (ty := .byte) (by decide)
    refine oS st40 ?_
    show oG p e below _ T40 (mkF m 43 #[.val (.int 2), .val (.int x1), .val (.int y1), .val (.int z1)] [(.ref b40)])
    have SB := Safe.ext E40 K0.2.2.1.1 (Safe.new (Nat.le_of_eq g40.symm))
    have Op := O0.ext E40
    have Zp : n0 ≤ h40.size := Nat.le_trans Z0 E40.1
    have gs : n0 ≤ b40 := Nat.le_trans Z0 (Nat.le_of_eq g40.symm)
    have zs : h0.size ≤ b40 := Nat.le_of_eq g40.symm
    have KP : Keep h0 h40 [] := (Keep.refl h0 []).ext E40
    have K40 := K0.ext E40
    refine oS (fun t k => XS.dup X40.here hx rfl (hb hby dmk_43) rfl rfl k) ?_
    refine oS (fun t k => XS.iconst X40.here hx rfl (hb hby dmk_44) k) ?_
    show oG p e below _ T40 (mkF m 45 #[.val (.int 2), .val (.int x1), .val (.int y1), .val (.int z1)] [(.int 2), (.ref b40), (.ref b40)])
    obtain ⟨T45, h45, k45, X45, e45, E45, A45, st45⟩ := newP X40 hx hZ (oW hw 7 rfl) e40 (g := (mkF m 45 #[.val (.int 2), .val (.int x1), .val (.int y1), .val (.int z1)] [(.int 2), (.ref b40), (.ref b40)])) rfl (hb hby dmk_45) rfl (by decide) (cap := 2) (by decide) (by decide) (by decide) (by decide)
    obtain ⟨b45, g45⟩ : ∃ z, z = h40.size := ⟨_, rfl⟩
    rw [← g45] at A45 st45
    have V45 : Arv Z h45 b45 k45 .char (2 : Int32) [(.int 0), (.int 0)] (.int 0) := (Arv.new A45 (by decide)).pad (pad_rep [] (.int 0) 2)
    refine oS st45 ?_
    show oG p e below _ T45 (mkF m 47 #[.val (.int 2), .val (.int x1), .val (.int y1), .val (.int z1)] [(.ref b45), (.ref b40), (.ref b40)])
    have SQ := Safe.ext E45 K40.2.2.1.1 (Safe.new (Nat.le_of_eq g45.symm))
    have SB := Safe.ext E45 K40.2.2.1.1 SB
    have Oq := Op.ext E45
    have Zq : n0 ≤ h45.size := Nat.le_trans Zp E45.1
    have gq : n0 ≤ b45 := Nat.le_trans Zp (Nat.le_of_eq g45.symm)
    have zq : h0.size ≤ b45 := Nat.le_trans KP.1 (Nat.le_of_eq g45.symm)
    have ne : b40 ≠ b45 := Nat.ne_of_lt (Nat.lt_of_lt_of_le A40.lt (Nat.le_of_eq g45.symm))
    have EX := A40.ext E45
    have FV := F40_value.ext E45
    have FC := F40_coder.ext E45
    have KP := KP.ext E45
    have K45 := K40.ext E45
    refine oS (fun t k => XS.dup X45.here hx rfl (hb hby dmk_47) rfl rfl k) ?_
    refine oS (fun t k => XS.iconst X45.here hx rfl (hb hby dmk_48) k) ?_
    refine oS (fun t k => XS.iloadN X45.here hx rfl (hb hby dmk_49) rfl  k) ?_
    show oG p e below _ T45 (mkF m 50 #[.val (.int 2), .val (.int x1), .val (.int y1), .val (.int z1)] [(.int x1), (.int 0), (.ref b45), (.ref b45), (.ref b40), (.ref b40)])
    obtain ⟨cl50, Ar50, q50, S50, M50, H50, G50⟩ := V45
    have hin50 : ¬ ((0 : Int32) < 0 ∨ cl50.slots.size ≤ ((0 : Int32)).toNatClampNeg) := inb_of S50 ⟨by decide, by decide⟩
    obtain ⟨T50, h50, X50, e50, W50, st50⟩ := stC X45 hx hZ e45 Ar50 (j := (0 : Int32)) hin50 (g := (mkF m 50 #[.val (.int 2), .val (.int x1), .val (.int y1), .val (.int z1)] [(.int x1), (.int 0), (.ref b45), (.ref b45), (.ref b40), (.ref b40)])) rfl rfl (hb hby dmk_50)
    refine oS st50 ?_
    have V50 := Arv.set Ar50 q50 S50 M50 H50 G50 (fits_nar_char _) W50 0 rfl (Nat.le_of_ble_eq_true rfl)
    have N50 := Fr.snoc X50 N0 gq
    show oG p e below _ T50 (mkF m 51 #[.val (.int 2), .val (.int x1), .val (.int y1), .val (.int z1)] [(.ref b45), (.ref b40), (.ref b40)])
    rw [own_narL hcx] at V50
    have K50 := K45.wr W50 SQ
    have SB := Safe.wr W50 SQ K45.2.2.1.1 SB
    have SQ := Safe.wr W50 SQ K45.2.2.1.1 SQ
    have Oq := Oq.wr W50 gq
    have Zq : n0 ≤ h50.size := Nat.le_trans Zq (Keep.of_wr W50).1
    have EX := EX.wr W50
    have FV := FV.other W50 (Or.inl ne)
    have FC := FC.other W50 (Or.inl ne)
    have KP := KP.wr W50 (Or.inr zq)
    refine oS (fun t k => XS.dup X50.here hx rfl (hb hby dmk_51) rfl rfl k) ?_
    refine oS (fun t k => XS.iconst X50.here hx rfl (hb hby dmk_52) k) ?_
    refine oS (fun t k => XS.iloadN X50.here hx rfl (hb hby dmk_53) rfl  k) ?_
    show oG p e below _ T50 (mkF m 54 #[.val (.int 2), .val (.int x1), .val (.int y1), .val (.int z1)] [(.int y1), (.int 1), (.ref b45), (.ref b45), (.ref b40), (.ref b40)])
    obtain ⟨cl54, Ar54, q54, S54, M54, H54, G54⟩ := V50
    have hin54 : ¬ ((1 : Int32) < 0 ∨ cl54.slots.size ≤ ((1 : Int32)).toNatClampNeg) := inb_of S54 ⟨by decide, by decide⟩
    obtain ⟨T54, h54, X54, e54, W54, st54⟩ := stC X50 hx hZ e50 Ar54 (j := (1 : Int32)) hin54 (g := (mkF m 54 #[.val (.int 2), .val (.int x1), .val (.int y1), .val (.int z1)] [(.int y1), (.int 1), (.ref b45), (.ref b45), (.ref b40), (.ref b40)])) rfl rfl (hb hby dmk_54)
    refine oS st54 ?_
    have V54 := Arv.set Ar54 q54 S54 M54 H54 G54 (fits_nar_char _) W54 1 rfl (Nat.le_of_ble_eq_true rfl)
    have N54 := Fr.snoc X54 N50 gq
    show oG p e below _ T54 (mkF m 55 #[.val (.int 2), .val (.int x1), .val (.int y1), .val (.int z1)] [(.ref b45), (.ref b40), (.ref b40)])
    rw [own_narL hcy] at V54
    have K54 := K50.wr W54 SQ
    have SB := Safe.wr W54 SQ K50.2.2.1.1 SB
    have SQ := Safe.wr W54 SQ K50.2.2.1.1 SQ
    have Oq := Oq.wr W54 gq
    have Zq : n0 ≤ h54.size := Nat.le_trans Zq (Keep.of_wr W54).1
    have EX := EX.wr W54
    have FV := FV.other W54 (Or.inl ne)
    have FC := FC.other W54 (Or.inl ne)
    have KP := KP.wr W54 (Or.inr zq)
    have hp : ∀ c ∈ ([x1, y1] : List Int32), ¬ c < 0 ∧ ¬ (255 : Int32) < c := by
      intro c hc
      simp only [List.mem_cons, List.not_mem_nil, or_false] at hc
      rcases hc with rfl | rfl
      · exact hcx
      · exact hcy
    refine own_callI X54 hx hZ (y := (⟨"java/lang/String", "<init>", "([C)V"⟩ : MethodName)) (W := 1) (Q := (StrChars.Road.QV Z b40 (2 : Int32) (([x1, y1] : List Int32).map (fun c : Int32 => c.toInt8.toInt32)) h54 n0)) (kc := 1) (ks := 2) rfl hown (oW hw 8 rfl) (oW hw 9 rfl) (oW hw 10 rfl) (StrChars.Road.backV (W := 1) (s := s.setVm s.vm) hZ hws (kI := 4) (oW hw 5 rfl) (cs := ([x1, y1] : List Int32)) (bs := ([x1, y1] : List Int32).map (fun c : Int32 => c.toInt8.toInt32)) (n := 2) gs Zq EX FV FC V54 (SC.ext Oq.2) hCS rfl rfl (by decide) (by decide) hp rfl (by decide) (by decide)) (by decide) (g := (mkF m 55 #[.val (.int 2), .val (.int x1), .val (.int y1), .val (.int z1)] [(.ref b45), (.ref b40), (.ref b40)])) rfl (by rw [hml]; rfl) (a := b40) (argsL := [(.ref b45)]) (rest := [(.ref b40)]) (lenOf pd_5 rfl) rfl (by show 2 * 0 + _ ≤ _; exact Nat.le_of_eq rfl) (hb hby dmk_55) rfl e54 (by decide) (by decide) (fun vC TC LC XC hQC => ?_)
    obtain ⟨rfl, MC, KC', q4, q5, t0, kb0, _, _, _, q6, q7⟩ := hQC
    have KC := K54.keep KC' (allS SB all0)
    have LL : own_Lat Z TC.heap b40 ([x1, y1] : List Int32) := ⟨t0, kb0, q4, q6, q5, q7⟩
    show oG p e below _ TC (mkF m 58 #[.val (.int 2), .val (.int x1), .val (.int y1), .val (.int z1)] [(.ref b40)])
    refine own_retHA XC KC rfl hx hlk hret rfl rfl (hb hby dmk_58) ?_ (by decide) (by decide)
    exact ⟨b40, rfl, Fr.app N54 MC, KP.trans KC' (allS (Or.inr zs) all0), gs, LL⟩
  · show oG p e below _ s₁ (mkF m 0 #[.val (.int 3), .val (.int x1), .val (.int y1), .val (.int z1)] [])
    refine oS (fun t k => XS.iloadN X0.here hx rfl (hb hby dmk_0) rfl  k) ?_
    show oG p e below _ s₁ (mkF m 1 #[.val (.int 3), .val (.int x1), .val (.int y1), .val (.int z1)] [(.int 3)])
    refine oS (fun t k => XS.ifYes X0.here hx rfl (pc0 := 1) (pc' := 15) rfl (hb hby dmk_1) rfl ((if0 _ _).trans (feq (by decide : ¬ (3 : Int32) = 0)).2) (by decide) (by decide) k) ?_
    show oG p e below _ s₁ (mkF m 15 #[.val (.int 3), .val (.int x1), .val (.int y1), .val (.int z1)] [])
    refine oS (fun t k => XS.iloadN X0.here hx rfl (hb hby dmk_15) rfl  k) ?_
    refine oS (fun t k => XS.iconst X0.here hx rfl (hb hby dmk_16) k) ?_
    show oG p e below _ s₁ (mkF m 17 #[.val (.int 3), .val (.int x1), .val (.int y1), .val (.int z1)] [(.int 1), (.int 3)])
    refine oS (fun t k => XS.icmpYes X0.here hx rfl (pc0 := 17) (pc' := 35) rfl (hb hby dmk_17) rfl (feq (by decide : ¬ (3 : Int32) = 1)).2 (by decide) (by decide) k) ?_
    show oG p e below _ s₁ (mkF m 35 #[.val (.int 3), .val (.int x1), .val (.int y1), .val (.int z1)] [])
    refine oS (fun t k => XS.iloadN X0.here hx rfl (hb hby dmk_35) rfl  k) ?_
    refine oS (fun t k => XS.iconst X0.here hx rfl (hb hby dmk_36) k) ?_
    show oG p e below _ s₁ (mkF m 37 #[.val (.int 3), .val (.int x1), .val (.int y1), .val (.int z1)] [(.int 2), (.int 3)])
    refine oS (fun t k => XS.icmpYes X0.here hx rfl (pc0 := 37) (pc' := 59) rfl (hb hby dmk_37) rfl (feq (by decide : ¬ (3 : Int32) = 2)).2 (by decide) (by decide) k) ?_
    show oG p e below _ s₁ (mkF m 59 #[.val (.int 3), .val (.int x1), .val (.int y1), .val (.int z1)] [])
    obtain ⟨T59, h59, X59, e59, E59, A59, D59, -, st59⟩ := newO X0 hx hZ hown (oW hw 4 rfl) (oW hw 5 rfl) (oW hw 6 rfl) e0 (g := (mkF m 59 #[.val (.int 3), .val (.int x1), .val (.int y1), .val (.int z1)] [])) rfl (hb hby dmk_59) (by decide) (by decide)
    obtain ⟨b59, g59⟩ : ∃ z, z = h0.size := ⟨_, rfl⟩
    rw [← g59] at A59 D59 st59
    have F59_value : Fld Z h59 b59 "java/lang/String" "value" "[B" .null := D59 (Or.inr (oW hw 20 rfl)) (ty := (.array .byte)) (by decide)
    have F59_coder : Fld Z h59 b59 "java/lang/String" "coder" "B" (.int 0) := D59 (Or.inr (oW hw 21 rfl)) (ty := .byte) (by decide)
    refine oS st59 ?_
    show oG p e below _ T59 (mkF m 62 #[.val (.int 3), .val (.int x1), .val (.int y1), .val (.int z1)] [(.ref b59)])
    have SB := Safe.ext E59 K0.2.2.1.1 (Safe.new (Nat.le_of_eq g59.symm))
    have Op := O0.ext E59
    have Zp : n0 ≤ h59.size := Nat.le_trans Z0 E59.1
    have gs : n0 ≤ b59 := Nat.le_trans Z0 (Nat.le_of_eq g59.symm)
    have zs : h0.size ≤ b59 := Nat.le_of_eq g59.symm
    have KP : Keep h0 h59 [] := (Keep.refl h0 []).ext E59
    have K59 := K0.ext E59
    refine oS (fun t k => XS.dup X59.here hx rfl (hb hby dmk_62) rfl rfl k) ?_
    refine oS (fun t k => XS.iconst X59.here hx rfl (hb hby dmk_63) k) ?_
    show oG p e below _ T59 (mkF m 64 #[.val (.int 3), .val (.int x1), .val (.int y1), .val (.int z1)] [(.int 3), (.ref b59), (.ref b59)])
    obtain ⟨T64, h64, k64, X64, e64, E64, A64, st64⟩ := newP X59 hx hZ (oW hw 7 rfl) e59 (g := (mkF m 64 #[.val (.int 3), .val (.int x1), .val (.int y1), .val (.int z1)] [(.int 3), (.ref b59), (.ref b59)])) rfl (hb hby dmk_64) rfl (by decide) (cap := 3) (by decide) (by decide) (by decide) (by decide)
    obtain ⟨b64, g64⟩ : ∃ z, z = h59.size := ⟨_, rfl⟩
    rw [← g64] at A64 st64
    have V64 : Arv Z h64 b64 k64 .char (3 : Int32) [(.int 0), (.int 0), (.int 0)] (.int 0) := (Arv.new A64 (by decide)).pad (pad_rep [] (.int 0) 3)
    refine oS st64 ?_
    show oG p e below _ T64 (mkF m 66 #[.val (.int 3), .val (.int x1), .val (.int y1), .val (.int z1)] [(.ref b64), (.ref b59), (.ref b59)])
    have SQ := Safe.ext E64 K59.2.2.1.1 (Safe.new (Nat.le_of_eq g64.symm))
    have SB := Safe.ext E64 K59.2.2.1.1 SB
    have Oq := Op.ext E64
    have Zq : n0 ≤ h64.size := Nat.le_trans Zp E64.1
    have gq : n0 ≤ b64 := Nat.le_trans Zp (Nat.le_of_eq g64.symm)
    have zq : h0.size ≤ b64 := Nat.le_trans KP.1 (Nat.le_of_eq g64.symm)
    have ne : b59 ≠ b64 := Nat.ne_of_lt (Nat.lt_of_lt_of_le A59.lt (Nat.le_of_eq g64.symm))
    have EX := A59.ext E64
    have FV := F59_value.ext E64
    have FC := F59_coder.ext E64
    have KP := KP.ext E64
    have K64 := K59.ext E64
    refine oS (fun t k => XS.dup X64.here hx rfl (hb hby dmk_66) rfl rfl k) ?_
    refine oS (fun t k => XS.iconst X64.here hx rfl (hb hby dmk_67) k) ?_
    refine oS (fun t k => XS.iloadN X64.here hx rfl (hb hby dmk_68) rfl  k) ?_
    show oG p e below _ T64 (mkF m 69 #[.val (.int 3), .val (.int x1), .val (.int y1), .val (.int z1)] [(.int x1), (.int 0), (.ref b64), (.ref b64), (.ref b59), (.ref b59)])
    obtain ⟨cl69, Ar69, q69, S69, M69, H69, G69⟩ := V64
    have hin69 : ¬ ((0 : Int32) < 0 ∨ cl69.slots.size ≤ ((0 : Int32)).toNatClampNeg) := inb_of S69 ⟨by decide, by decide⟩
    obtain ⟨T69, h69, X69, e69, W69, st69⟩ := stC X64 hx hZ e64 Ar69 (j := (0 : Int32)) hin69 (g := (mkF m 69 #[.val (.int 3), .val (.int x1), .val (.int y1), .val (.int z1)] [(.int x1), (.int 0), (.ref b64), (.ref b64), (.ref b59), (.ref b59)])) rfl rfl (hb hby dmk_69)
    refine oS st69 ?_
    have V69 := Arv.set Ar69 q69 S69 M69 H69 G69 (fits_nar_char _) W69 0 rfl (Nat.le_of_ble_eq_true rfl)
    have N69 := Fr.snoc X69 N0 gq
    show oG p e below _ T69 (mkF m 70 #[.val (.int 3), .val (.int x1), .val (.int y1), .val (.int z1)] [(.ref b64), (.ref b59), (.ref b59)])
    rw [own_narL hcx] at V69
    have K69 := K64.wr W69 SQ
    have SB := Safe.wr W69 SQ K64.2.2.1.1 SB
    have SQ := Safe.wr W69 SQ K64.2.2.1.1 SQ
    have Oq := Oq.wr W69 gq
    have Zq : n0 ≤ h69.size := Nat.le_trans Zq (Keep.of_wr W69).1
    have EX := EX.wr W69
    have FV := FV.other W69 (Or.inl ne)
    have FC := FC.other W69 (Or.inl ne)
    have KP := KP.wr W69 (Or.inr zq)
    refine oS (fun t k => XS.dup X69.here hx rfl (hb hby dmk_70) rfl rfl k) ?_
    refine oS (fun t k => XS.iconst X69.here hx rfl (hb hby dmk_71) k) ?_
    refine oS (fun t k => XS.iloadN X69.here hx rfl (hb hby dmk_72) rfl  k) ?_
    show oG p e below _ T69 (mkF m 73 #[.val (.int 3), .val (.int x1), .val (.int y1), .val (.int z1)] [(.int y1), (.int 1), (.ref b64), (.ref b64), (.ref b59), (.ref b59)])
    obtain ⟨cl73, Ar73, q73, S73, M73, H73, G73⟩ := V69
    have hin73 : ¬ ((1 : Int32) < 0 ∨ cl73.slots.size ≤ ((1 : Int32)).toNatClampNeg) := inb_of S73 ⟨by decide, by decide⟩
    obtain ⟨T73, h73, X73, e73, W73, st73⟩ := stC X69 hx hZ e69 Ar73 (j := (1 : Int32)) hin73 (g := (mkF m 73 #[.val (.int 3), .val (.int x1), .val (.int y1), .val (.int z1)] [(.int y1), (.int 1), (.ref b64), (.ref b64), (.ref b59), (.ref b59)])) rfl rfl (hb hby dmk_73)
    refine oS st73 ?_
    have V73 := Arv.set Ar73 q73 S73 M73 H73 G73 (fits_nar_char _) W73 1 rfl (Nat.le_of_ble_eq_true rfl)
    have N73 := Fr.snoc X73 N69 gq
    show oG p e below _ T73 (mkF m 74 #[.val (.int 3), .val (.int x1), .val (.int y1), .val (.int z1)] [(.ref b64), (.ref b59), (.ref b59)])
    rw [own_narL hcy] at V73
    have K73 := K69.wr W73 SQ
    have SB := Safe.wr W73 SQ K69.2.2.1.1 SB
    have SQ := Safe.wr W73 SQ K69.2.2.1.1 SQ
    have Oq := Oq.wr W73 gq
    have Zq : n0 ≤ h73.size := Nat.le_trans Zq (Keep.of_wr W73).1
    have EX := EX.wr W73
    have FV := FV.other W73 (Or.inl ne)
    have FC := FC.other W73 (Or.inl ne)
    have KP := KP.wr W73 (Or.inr zq)
    refine oS (fun t k => XS.dup X73.here hx rfl (hb hby dmk_74) rfl rfl k) ?_
    refine oS (fun t k => XS.iconst X73.here hx rfl (hb hby dmk_75) k) ?_
    refine oS (fun t k => XS.iloadN X73.here hx rfl (hb hby dmk_76) rfl  k) ?_
    show oG p e below _ T73 (mkF m 77 #[.val (.int 3), .val (.int x1), .val (.int y1), .val (.int z1)] [(.int z1), (.int 2), (.ref b64), (.ref b64), (.ref b59), (.ref b59)])
    obtain ⟨cl77, Ar77, q77, S77, M77, H77, G77⟩ := V73
    have hin77 : ¬ ((2 : Int32) < 0 ∨ cl77.slots.size ≤ ((2 : Int32)).toNatClampNeg) := inb_of S77 ⟨by decide, by decide⟩
    obtain ⟨T77, h77, X77, e77, W77, st77⟩ := stC X73 hx hZ e73 Ar77 (j := (2 : Int32)) hin77 (g := (mkF m 77 #[.val (.int 3), .val (.int x1), .val (.int y1), .val (.int z1)] [(.int z1), (.int 2), (.ref b64), (.ref b64), (.ref b59), (.ref b59)])) rfl rfl (hb hby dmk_77)
    refine oS st77 ?_
    have V77 := Arv.set Ar77 q77 S77 M77 H77 G77 (fits_nar_char _) W77 2 rfl (Nat.le_of_ble_eq_true rfl)
    have N77 := Fr.snoc X77 N73 gq
    show oG p e below _ T77 (mkF m 78 #[.val (.int 3), .val (.int x1), .val (.int y1), .val (.int z1)] [(.ref b64), (.ref b59), (.ref b59)])
    rw [own_narL hcz] at V77
    have K77 := K73.wr W77 SQ
    have SB := Safe.wr W77 SQ K73.2.2.1.1 SB
    have SQ := Safe.wr W77 SQ K73.2.2.1.1 SQ
    have Oq := Oq.wr W77 gq
    have Zq : n0 ≤ h77.size := Nat.le_trans Zq (Keep.of_wr W77).1
    have EX := EX.wr W77
    have FV := FV.other W77 (Or.inl ne)
    have FC := FC.other W77 (Or.inl ne)
    have KP := KP.wr W77 (Or.inr zq)
    have hp : ∀ c ∈ ([x1, y1, z1] : List Int32), ¬ c < 0 ∧ ¬ (255 : Int32) < c := by
      intro c hc
      simp only [List.mem_cons, List.not_mem_nil, or_false] at hc
      rcases hc with rfl | rfl | rfl
      · exact hcx
      · exact hcy
      · exact hcz
    refine own_callI X77 hx hZ (y := (⟨"java/lang/String", "<init>", "([C)V"⟩ : MethodName)) (W := 1) (Q := (StrChars.Road.QV Z b59 (3 : Int32) (([x1, y1, z1] : List Int32).map (fun c : Int32 => c.toInt8.toInt32)) h77 n0)) (kc := 1) (ks := 3) rfl hown (oW hw 8 rfl) (oW hw 9 rfl) (oW hw 10 rfl) (StrChars.Road.backV (W := 1) (s := s.setVm s.vm) hZ hws (kI := 4) (oW hw 5 rfl) (cs := ([x1, y1, z1] : List Int32)) (bs := ([x1, y1, z1] : List Int32).map (fun c : Int32 => c.toInt8.toInt32)) (n := 3) gs Zq EX FV FC V77 (SC.ext Oq.2) hCS rfl rfl (by decide) (by decide) hp rfl (by decide) (by decide)) (by decide) (g := (mkF m 78 #[.val (.int 3), .val (.int x1), .val (.int y1), .val (.int z1)] [(.ref b64), (.ref b59), (.ref b59)])) rfl (by rw [hml]; rfl) (a := b59) (argsL := [(.ref b64)]) (rest := [(.ref b59)]) (lenOf pd_5 rfl) rfl (by show 2 * 0 + _ ≤ _; exact Nat.le_of_eq rfl) (hb hby dmk_78) rfl e77 (by decide) (by decide) (fun vC TC LC XC hQC => ?_)
    obtain ⟨rfl, MC, KC', q4, q5, t0, kb0, _, _, _, q6, q7⟩ := hQC
    have KC := K77.keep KC' (allS SB all0)
    have LL : own_Lat Z TC.heap b59 ([x1, y1, z1] : List Int32) := ⟨t0, kb0, q4, q6, q5, q7⟩
    show oG p e below _ TC (mkF m 81 #[.val (.int 3), .val (.int x1), .val (.int y1), .val (.int z1)] [(.ref b59)])
    refine own_retHA XC KC rfl hx hlk hret rfl rfl (hb hby dmk_81) ?_ (by decide) (by decide)
    exact ⟨b59, rfl, Fr.app N77 MC, KP.trans KC' (allS (Or.inr zs) all0), gs, LL⟩
theorem dai_0 : decode jdk_68_method_2_code 0 = .ok (.aload_n 0, 1) := by decide +kernel
theorem dai_1 : decode jdk_68_method_2_code 1 = .ok (.invokespecial 3, 3) := by decide +kernel
theorem dai_4 : decode jdk_68_method_2_code 4 = .ok (.getstatic 18, 3) := by decide +kernel
theorem dai_7 : decode jdk_68_method_2_code 7 = .ok (.ifCond .eq 18, 3) := by decide +kernel
theorem dai_10 : decode jdk_68_method_2_code 10 = .ok (.aload_n 0, 1) := by decide +kernel
theorem dai_11 : decode jdk_68_method_2_code 11 = .ok (.iload_n 1, 1) := by decide +kernel
theorem dai_12 : decode jdk_68_method_2_code 12 = .ok (.newarray .byte, 2) := by decide +kernel
theorem dai_14 : decode jdk_68_method_2_code 14 = .ok (.putfield 15, 3) := by decide +kernel
theorem dai_17 : decode jdk_68_method_2_code 17 = .ok (.aload_n 0, 1) := by decide +kernel
theorem dai_18 : decode jdk_68_method_2_code 18 = .ok (.iconst 0, 1) := by decide +kernel
theorem dai_19 : decode jdk_68_method_2_code 19 = .ok (.putfield 22, 3) := by decide +kernel
theorem dai_22 : decode jdk_68_method_2_code 22 = .ok (.goto 16, 3) := by decide +kernel
theorem dai_25 : decode jdk_68_method_2_code 25 = .ok (.aload_n 0, 1) := by decide +kernel
theorem dai_26 : decode jdk_68_method_2_code 26 = .ok (.iload_n 1, 1) := by decide +kernel
theorem dai_27 : decode jdk_68_method_2_code 27 = .ok (.invokestatic 26, 3) := by decide +kernel
theorem dai_30 : decode jdk_68_method_2_code 30 = .ok (.putfield 15, 3) := by decide +kernel
theorem dai_33 : decode jdk_68_method_2_code 33 = .ok (.aload_n 0, 1) := by decide +kernel
theorem dai_34 : decode jdk_68_method_2_code 34 = .ok (.iconst 1, 1) := by decide +kernel
theorem dai_35 : decode jdk_68_method_2_code 35 = .ok (.putfield 22, 3) := by decide +kernel
theorem dai_38 : decode jdk_68_method_2_code 38 = .ok (.return_, 1) := by decide +kernel
theorem pn_4 : plainName "java/lang/AbstractStringBuilder" = true := by first | (simp [plainName, overriddenIn]; done) | decide +kernel
theorem efai (m : MethodId) (x0 : Addr) (x1 : Int32) : entryFrame m #[(.ref x0), (.int x1)] 2 = mkF m 0 #[.val (.ref x0), .val (.int x1)] [] := by first | (simp [entryFrame, mkF, argsToLocals, Value.category]; done) | rfl
set_option maxRecDepth 65536 in
set_option maxHeartbeats 40000000 in
theorem rm_ai (l : Launch) (Z : State) (a0 : Array Value) (hw : ∀ d ∈ tables_1, d.before a0 Z = true) (ws : List Jvm.Cond) (o1 : Addr) (v0 : Value) (c0v : Value) (CS : Int32) (h0 : Heap) (n0 : Nat) (Z0 : n0 ≤ h0.size) (E1 : Exa Z h0 o1 "java/lang/StringBuilder") (F1 : Fld Z h0 o1 "java/lang/AbstractStringBuilder" "value" "[B" v0) (C1 : Fld Z h0 o1 "java/lang/AbstractStringBuilder" "coder" "B" c0v) (D1 : Fld Z h0 o1 "java/lang/AbstractStringBuilder" "count" "I" (.int 0)) (go : n0 ≤ o1) (SC : Sta Z h0 "java/lang/String" "COMPACT_STRINGS" "Z" (.int CS)) (hCS : ¬ CS = 0) :
    own_Met l Z ws (⟨"java/lang/AbstractStringBuilder", "<init>", "(I)V"⟩ : MethodName) jdk_68_method_2_code 2 none ({ frames := 1, cells := 1, slots := 16, locals := 12 } : Room) #[(.ref o1), (.int 16)] h0 (fun v h L => v = none ∧ Fr n0 L ∧ Keep h0 h [o1] ∧ Exa Z h o1 "java/lang/StringBuilder" ∧ ∃ kb, Fld Z h o1 "java/lang/AbstractStringBuilder" "value" "[B" (.ref h0.size) ∧ Fld Z h o1 "java/lang/AbstractStringBuilder" "coder" "B" (.int 0) ∧ Fld Z h o1 "java/lang/AbstractStringBuilder" "count" "I" (.int 0) ∧ Arv Z h h0.size kb .byte (16 : Int32) [(.int 0), (.int 0), (.int 0), (.int 0), (.int 0), (.int 0), (.int 0), (.int 0), (.int 0), (.int 0), (.int 0), (.int 0), (.int 0), (.int 0), (.int 0), (.int 0)] (.int 0)) := by
  refine own_body (plainFor_of_name pn_4) ?_
  intro p e s m below meth c s₁ hx hby hml hret hlk hown hnm hZ X0 e0
  have hml : c.maxLocals = 2 := hml
  have hown : s.vm.findClass "java/lang/AbstractStringBuilder" = some m.cls := hown
  have N0 := Fr.nil n0
  refine own_cast (efai m o1 (16 : Int32)) ?_
  show oG p e below _ s₁ (mkF m 0 #[.val (.ref o1), .val (.int 16)] [])
  refine oS (fun t k => XS.aloadN X0.here hx rfl (hb hby dai_0) rfl rfl k) ?_
  show oG p e below _ s₁ (mkF m 1 #[.val (.ref o1), .val (.int 16)] [(.ref o1)])
  obtain ⟨T1, X1, e1, st1⟩ := initO X0 hx hZ hown (oW hw 96 rfl) (oW hw 16 rfl) (oW hw 17 rfl) e0 (g := (mkF m 1 #[.val (.ref o1), .val (.int 16)] [(.ref o1)])) rfl (by rw [hml]; rfl) rfl (hb hby dai_1) (by decide) (W := 0) (by show 2 * 0 + _ ≤ _; exact Nat.le_of_eq rfl) (by decide)
  refine oS st1 ?_
  show oG p e below _ T1 (mkF m 4 #[.val (.ref o1), .val (.int 16)] [])
  obtain ⟨T4, X4, e4, st4⟩ := getS2 X1 hx hZ hown (host := "") (Or.inl (oW hw 97 rfl)) Via.refl e1 SC (g := (mkF m 4 #[.val (.ref o1), .val (.int 16)] [])) rfl (hb hby dai_4)
  refine oS st4 ?_
  show oG p e below _ T4 (mkF m 7 #[.val (.ref o1), .val (.int 16)] [(.int CS)])
  refine oS (fun t k => XS.ifNo X4.here hx rfl (hb hby dai_7) rfl ((if0 _ _).trans (feq hCS).1) k) ?_
  show oG p e below _ T4 (mkF m 10 #[.val (.ref o1), .val (.int 16)] [])
  refine oS (fun t k => XS.aloadN X4.here hx rfl (hb hby dai_10) rfl rfl k) ?_
  refine oS (fun t k => XS.iloadN X4.here hx rfl (hb hby dai_11) rfl  k) ?_
  show oG p e below _ T4 (mkF m 12 #[.val (.ref o1), .val (.int 16)] [(.int 16), (.ref o1)])
  obtain ⟨T12, h12, k12, X12, e12, E12, A12, st12⟩ := newP X4 hx hZ (oW hw 19 rfl) e4 (g := (mkF m 12 #[.val (.ref o1), .val (.int 16)] [(.int 16), (.ref o1)])) rfl (hb hby dai_12) rfl (by decide) (cap := 16) (by decide) (by decide) (by decide) (by decide)
  obtain ⟨b12, g12⟩ : ∃ z, z = h0.size := ⟨_, rfl⟩
  rw [← g12] at A12 st12
  have V12 : Arv Z h12 b12 k12 .byte (16 : Int32) [(.int 0), (.int 0), (.int 0), (.int 0), (.int 0), (.int 0), (.int 0), (.int 0), (.int 0), (.int 0), (.int 0), (.int 0), (.int 0), (.int 0), (.int 0), (.int 0)] (.int 0) := (Arv.new A12 (by decide)).pad (pad_rep [] (.int 0) 16)
  refine oS st12 ?_
  show oG p e below _ T12 (mkF m 14 #[.val (.ref o1), .val (.int 16)] [(.ref b12), (.ref o1)])
  subst g12
  have nb : h0.size ≠ o1 := Nat.ne_of_gt E1.lt
  show oG p e below _ T12 (mkF m 14 #[.val (.ref o1), .val (.int 16)] [(.ref h0.size), (.ref o1)])
  have go' := go
  obtain ⟨T14, h14, X14, e14, W14, st14⟩ := putF X12 hx hZ hown (host := "") (Or.inl (oW hw 98 rfl)) Via.refl e12 (F1.ext E12) (E1.ext E12) (Or.inl (oW hw 99 rfl)) (oW hw 85 rfl) (ty := (.array .byte)) (by decide) rfl rfl (g := (mkF m 14 #[.val (.ref o1), .val (.int 16)] [(.ref h0.size), (.ref o1)])) rfl rfl (hb hby dai_14)
  refine oS st14 ?_
  have N14 := Fr.snoc X14 N0 go
  have E14_o := (E1.ext E12).wr W14
  have F14_value := (F1.ext E12).same W14
  have F14_coder := (C1.ext E12).other W14 (Or.inr (slot_ne (Or.inl (oW hw 101 rfl)) (Or.inl (oW hw 99 rfl)) (by decide) (t := .byte) (t' := (.array .byte)) (by decide) (by decide)))
  have F14_count := (D1.ext E12).other W14 (Or.inr (slot_ne (Or.inl (oW hw 125 rfl)) (Or.inl (oW hw 99 rfl)) (by decide) (t := .int) (t' := (.array .byte)) (by decide) (by decide)))
  show oG p e below _ T14 (mkF m 17 #[.val (.ref o1), .val (.int 16)] [])
  have B14 := V12.other W14 nb
  refine oS (fun t k => XS.aloadN X14.here hx rfl (hb hby dai_17) rfl rfl k) ?_
  refine oS (fun t k => XS.iconst X14.here hx rfl (hb hby dai_18) k) ?_
  show oG p e below _ T14 (mkF m 19 #[.val (.ref o1), .val (.int 16)] [(.int 0), (.ref o1)])
  obtain ⟨T19, h19, X19, e19, W19, st19⟩ := putFN X14 hx hZ hown (oW hw 100 rfl) Via.refl e14 F14_coder E14_o (Or.inl (oW hw 101 rfl)) (oW hw 85 rfl) (ty := .byte) (v' := (.int 0)) (by decide) rfl rfl (g := (mkF m 19 #[.val (.ref o1), .val (.int 16)] [(.int 0), (.ref o1)])) rfl rfl (hb hby dai_19)
  refine oS st19 ?_
  have N19 := Fr.snoc X19 N14 go
  have E19_o := E14_o.wr W19
  have F19_value := F14_value.other W19 (Or.inr (slot_ne (Or.inl (oW hw 99 rfl)) (Or.inl (oW hw 101 rfl)) (by decide) (t := (.array .byte)) (t' := .byte) (by decide) (by decide)))
  have F19_coder := F14_coder.same W19
  have F19_count := F14_count.other W19 (Or.inr (slot_ne (Or.inl (oW hw 125 rfl)) (Or.inl (oW hw 101 rfl)) (by decide) (t := .int) (t' := .byte) (by decide) (by decide)))
  show oG p e below _ T19 (mkF m 22 #[.val (.ref o1), .val (.int 16)] [])
  have B19 := B14.other W19 nb
  refine oS (fun t k => XS.goto X19.here hx rfl (pc0 := 22) (pc' := 38) rfl (hb hby dai_22) (by decide) (by decide) k) ?_
  show oG p e below _ T19 (mkF m 38 #[.val (.ref o1), .val (.int 16)] [])
  refine own_retV X19 hx hlk hret (hb hby dai_38) ?_ (by decide) (by decide)
  rw [e19]
  exact ⟨rfl, N19, (((Keep.refl h0 [o1]).ext E12).wr W14 (Or.inl (List.mem_of_getElem? (i := 0) rfl))).wr W19 (Or.inl (List.mem_of_getElem? (i := 0) rfl)), E19_o, k12, F19_value, F19_coder, F19_count, B19⟩
theorem dsi_0 : decode jdk_67_method_1_code 0 = .ok (.aload_n 0, 1) := by decide +kernel
theorem dsi_1 : decode jdk_67_method_1_code 1 = .ok (.bipush 16, 2) := by decide +kernel
theorem dsi_3 : decode jdk_67_method_1_code 3 = .ok (.invokespecial 1, 3) := by decide +kernel
theorem dsi_6 : decode jdk_67_method_1_code 6 = .ok (.return_, 1) := by decide +kernel
theorem pn_5 : plainName "java/lang/StringBuilder" = true := by first | (simp [plainName, overriddenIn]; done) | decide +kernel
theorem efsi (m : MethodId) (x0 : Addr) : entryFrame m #[(.ref x0)] 1 = mkF m 0 #[.val (.ref x0)] [] := by first | (simp [entryFrame, mkF, argsToLocals, Value.category]; done) | rfl
theorem pd_6 : parseMethodDescriptor "(I)V" = some ⟨[.int], none⟩ := by decide +kernel
set_option maxRecDepth 65536 in
set_option maxHeartbeats 40000000 in
theorem rm_si (l : Launch) (Z : State) (a0 : Array Value) (hw : ∀ d ∈ tables_1, d.before a0 Z = true) (ws : List Jvm.Cond) (o1 : Addr) (v0 : Value) (c0v : Value) (CS : Int32) (h0 : Heap) (n0 : Nat) (Z0 : n0 ≤ h0.size) (E1 : Exa Z h0 o1 "java/lang/StringBuilder") (F1 : Fld Z h0 o1 "java/lang/AbstractStringBuilder" "value" "[B" v0) (C1 : Fld Z h0 o1 "java/lang/AbstractStringBuilder" "coder" "B" c0v) (D1 : Fld Z h0 o1 "java/lang/AbstractStringBuilder" "count" "I" (.int 0)) (go : n0 ≤ o1) (SC : Sta Z h0 "java/lang/String" "COMPACT_STRINGS" "Z" (.int CS)) (hCS : ¬ CS = 0) :
    own_Met l Z ws (⟨"java/lang/StringBuilder", "<init>", "()V"⟩ : MethodName) jdk_67_method_1_code 1 none ({ frames := 2, cells := 1, slots := 16, locals := 30 } : Room) #[(.ref o1)] h0 (fun v h L => v = none ∧ Fr n0 L ∧ Keep h0 h [o1] ∧ Exa Z h o1 "java/lang/StringBuilder" ∧ ∃ kb, Fld Z h o1 "java/lang/AbstractStringBuilder" "value" "[B" (.ref h0.size) ∧ Fld Z h o1 "java/lang/AbstractStringBuilder" "coder" "B" (.int 0) ∧ Fld Z h o1 "java/lang/AbstractStringBuilder" "count" "I" (.int 0) ∧ Arv Z h h0.size kb .byte (16 : Int32) [(.int 0), (.int 0), (.int 0), (.int 0), (.int 0), (.int 0), (.int 0), (.int 0), (.int 0), (.int 0), (.int 0), (.int 0), (.int 0), (.int 0), (.int 0), (.int 0)] (.int 0)) := by
  refine own_body (plainFor_of_name pn_5) ?_
  intro p e s m below meth c s₁ hx hby hml hret hlk hown hnm hZ X0 e0
  have hml : c.maxLocals = 1 := hml
  have hown : s.vm.findClass "java/lang/StringBuilder" = some m.cls := hown
  have N0 := Fr.nil n0
  refine own_cast (efsi m o1) ?_
  show oG p e below _ s₁ (mkF m 0 #[.val (.ref o1)] [])
  refine oS (fun t k => XS.aloadN X0.here hx rfl (hb hby dsi_0) rfl rfl k) ?_
  refine oS (fun t k => XS.bipush X0.here hx rfl (hb hby dsi_1) k) ?_
  show oG p e below _ s₁ (mkF m 3 #[.val (.ref o1)] [(.int 16), (.ref o1)])
  refine own_callI X0 hx hZ (y := (⟨"java/lang/AbstractStringBuilder", "<init>", "(I)V"⟩ : MethodName)) (W := 0) (kc := 1) (ks := 16) rfl hown (oW hw 90 rfl) (oW hw 91 rfl) (oW hw 95 rfl) (own_back (W := 0) (rm_ai l Z a0 hw [] o1 v0 c0v CS h0 n0 Z0 E1 F1 C1 D1 go SC hCS) hZ (oW hw 95 rfl) (oW hw 94 rfl) (by decide) (by decide)) (by decide) (g := (mkF m 3 #[.val (.ref o1)] [(.int 16), (.ref o1)])) rfl (by rw [hml]; rfl) (a := o1) (argsL := [(.int 16)]) (rest := []) (lenOf pd_6 rfl) rfl (by show 2 * 0 + _ ≤ _; exact Nat.le_of_eq rfl) (hb hby dsi_3) rfl e0 (by decide) (by decide) (fun v3 T3 L3 X3 hQ3 => ?_)
  obtain ⟨rfl, M3, q1, q2, q3⟩ := hQ3
  show oG p e below _ T3 (mkF m 6 #[.val (.ref o1)] [])
  refine own_retV X3 hx hlk hret (hb hby dsi_6) ?_ (by decide) (by decide)
  exact ⟨rfl, Fr.app N0 M3, q1, q2, q3⟩
theorem dco_0 : decode jdk_42_method_152_code 0 = .ok (.getstatic 38, 3) := by decide +kernel
theorem dco_3 : decode jdk_42_method_152_code 3 = .ok (.ifCond .eq 10, 3) := by decide +kernel
theorem dco_6 : decode jdk_42_method_152_code 6 = .ok (.aload_n 0, 1) := by decide +kernel
theorem dco_7 : decode jdk_42_method_152_code 7 = .ok (.getfield 15, 3) := by decide +kernel
theorem dco_10 : decode jdk_42_method_152_code 10 = .ok (.goto 4, 3) := by decide +kernel
theorem dco_13 : decode jdk_42_method_152_code 13 = .ok (.iconst 1, 1) := by decide +kernel
theorem dco_14 : decode jdk_42_method_152_code 14 = .ok (.ireturn, 1) := by decide +kernel
theorem efco (m : MethodId) (x0 : Addr) : entryFrame m #[(.ref x0)] 1 = mkF m 0 #[.val (.ref x0)] [] := by first | (simp [entryFrame, mkF, argsToLocals, Value.category]; done) | rfl
set_option maxRecDepth 65536 in
set_option maxHeartbeats 40000000 in
theorem rm_co (l : Launch) (Z : State) (a0 : Array Value) (hw : ∀ d ∈ tables_1, d.before a0 Z = true) (ws : List Jvm.Cond) (s1 : Addr) (CS : Int32) (h0 : Heap) (n0 : Nat) (Z0 : n0 ≤ h0.size) (Cs : Fld Z h0 s1 "java/lang/String" "coder" "B" (.int 0)) (SC : Sta Z h0 "java/lang/String" "COMPACT_STRINGS" "Z" (.int CS)) (hCS : ¬ CS = 0) :
    own_Met l Z ws (⟨"java/lang/String", "coder", "()B"⟩ : MethodName) jdk_42_method_152_code 1 (some .byte) ({ frames := 0, cells := 0, slots := 0, locals := 0 } : Room) #[(.ref s1)] h0 (fun v h L => v = some (.int 0) ∧ Fr n0 L ∧ h = h0) := by
  refine own_body (plainFor_of_name pn_2) ?_
  intro p e s m below meth c s₁ hx hby hml hret hlk hown hnm hZ X0 e0
  have hml : c.maxLocals = 1 := hml
  have hown : s.vm.findClass "java/lang/String" = some m.cls := hown
  have N0 := Fr.nil n0
  refine own_cast (efco m s1) ?_
  show oG p e below _ s₁ (mkF m 0 #[.val (.ref s1)] [])
  obtain ⟨T0, X0, e0, st0⟩ := getS2 X0 hx hZ hown (host := "") (Or.inl (oW hw 123 rfl)) Via.refl e0 SC (g := (mkF m 0 #[.val (.ref s1)] [])) rfl (hb hby dco_0)
  refine oS st0 ?_
  show oG p e below _ T0 (mkF m 3 #[.val (.ref s1)] [(.int CS)])
  refine oS (fun t k => XS.ifNo X0.here hx rfl (hb hby dco_3) rfl ((if0 _ _).trans (feq hCS).1) k) ?_
  show oG p e below _ T0 (mkF m 6 #[.val (.ref s1)] [])
  refine oS (fun t k => XS.aloadN X0.here hx rfl (hb hby dco_6) rfl rfl k) ?_
  show oG p e below _ T0 (mkF m 7 #[.val (.ref s1)] [(.ref s1)])
  obtain ⟨T7, X7, e7, st7⟩ := getF X0 hx hZ hown (host := "") (Or.inl (oW hw 25 rfl)) Via.refl e0 Cs (g := (mkF m 7 #[.val (.ref s1)] [(.ref s1)])) rfl rfl (hb hby dco_7)
  refine oS st7 ?_
  show oG p e below _ T7 (mkF m 10 #[.val (.ref s1)] [(.int 0)])
  refine oS (fun t k => XS.goto X7.here hx rfl (pc0 := 10) (pc' := 14) rfl (hb hby dco_10) (by decide) (by decide) k) ?_
  show oG p e below _ T7 (mkF m 14 #[.val (.ref s1)] [(.int 0)])
  refine own_retN (t := .byte) X7 hx hlk hret (by simp) (hb hby dco_14) ?_ (by decide) (by decide)
  rw [e7]
  exact ⟨rfl, N0, rfl⟩
theorem dif_0 : decode jdk_68_method_71_code 0 = .ok (.getstatic 18, 3) := by decide +kernel
theorem dif_3 : decode jdk_68_method_71_code 3 = .ok (.ifCond .eq 18, 3) := by decide +kernel
theorem dif_6 : decode jdk_68_method_71_code 6 = .ok (.aload_n 0, 1) := by decide +kernel
theorem dif_7 : decode jdk_68_method_71_code 7 = .ok (.getfield 22, 3) := by decide +kernel
theorem dif_10 : decode jdk_68_method_71_code 10 = .ok (.aload_n 1, 1) := by decide +kernel
theorem dif_11 : decode jdk_68_method_71_code 11 = .ok (.invokevirtual 40, 3) := by decide +kernel
theorem dif_14 : decode jdk_68_method_71_code 14 = .ok (.if_icmp .eq 7, 3) := by decide +kernel
theorem dif_17 : decode jdk_68_method_71_code 17 = .ok (.aload_n 0, 1) := by decide +kernel
theorem dif_18 : decode jdk_68_method_71_code 18 = .ok (.invokevirtual 195, 3) := by decide +kernel
theorem dif_21 : decode jdk_68_method_71_code 21 = .ok (.return_, 1) := by decide +kernel
theorem efif (m : MethodId) (x0 : Addr) (x1 : Addr) : entryFrame m #[(.ref x0), (.ref x1)] 2 = mkF m 0 #[.val (.ref x0), .val (.ref x1)] [] := by first | (simp [entryFrame, mkF, argsToLocals, Value.category]; done) | rfl
theorem pd_7 : parseMethodDescriptor "()B" = some ⟨[], some .byte⟩ := by decide +kernel
set_option maxRecDepth 65536 in
set_option maxHeartbeats 40000000 in
theorem rm_if (l : Launch) (Z : State) (a0 : Array Value) (hw : ∀ d ∈ tables_1, d.before a0 Z = true) (ws : List Jvm.Cond) (o1 : Addr) (s1 : Addr) (CS : Int32) (h0 : Heap) (n0 : Nat) (Z0 : n0 ≤ h0.size) (C1 : Fld Z h0 o1 "java/lang/AbstractStringBuilder" "coder" "B" (.int 0)) (Es : Exa Z h0 s1 "java/lang/String") (Cs : Fld Z h0 s1 "java/lang/String" "coder" "B" (.int 0)) (SC : Sta Z h0 "java/lang/String" "COMPACT_STRINGS" "Z" (.int CS)) (hCS : ¬ CS = 0) :
    own_Met l Z ws (⟨"java/lang/AbstractStringBuilder", "inflateIfNeededFor", "(Ljava/lang/String;)V"⟩ : MethodName) jdk_68_method_71_code 2 none ({ frames := 1, cells := 0, slots := 0, locals := 16 } : Room) #[(.ref o1), (.ref s1)] h0 (fun v h L => v = none ∧ Fr n0 L ∧ h = h0) := by
  refine own_body (plainFor_of_name pn_4) ?_
  intro p e s m below meth c s₁ hx hby hml hret hlk hown hnm hZ X0 e0
  have hml : c.maxLocals = 2 := hml
  have hown : s.vm.findClass "java/lang/AbstractStringBuilder" = some m.cls := hown
  have N0 := Fr.nil n0
  refine own_cast (efif m o1 s1) ?_
  show oG p e below _ s₁ (mkF m 0 #[.val (.ref o1), .val (.ref s1)] [])
  obtain ⟨T0, X0, e0, st0⟩ := getS2 X0 hx hZ hown (host := "") (Or.inl (oW hw 97 rfl)) Via.refl e0 SC (g := (mkF m 0 #[.val (.ref o1), .val (.ref s1)] [])) rfl (hb hby dif_0)
  refine oS st0 ?_
  show oG p e below _ T0 (mkF m 3 #[.val (.ref o1), .val (.ref s1)] [(.int CS)])
  refine oS (fun t k => XS.ifNo X0.here hx rfl (hb hby dif_3) rfl ((if0 _ _).trans (feq hCS).1) k) ?_
  show oG p e below _ T0 (mkF m 6 #[.val (.ref o1), .val (.ref s1)] [])
  refine oS (fun t k => XS.aloadN X0.here hx rfl (hb hby dif_6) rfl rfl k) ?_
  show oG p e below _ T0 (mkF m 7 #[.val (.ref o1), .val (.ref s1)] [(.ref o1)])
  obtain ⟨T7, X7, e7, st7⟩ := getF X0 hx hZ hown (host := "") (Or.inl (oW hw 100 rfl)) Via.refl e0 C1 (g := (mkF m 7 #[.val (.ref o1), .val (.ref s1)] [(.ref o1)])) rfl rfl (hb hby dif_7)
  refine oS st7 ?_
  show oG p e below _ T7 (mkF m 10 #[.val (.ref o1), .val (.ref s1)] [(.int 0)])
  refine oS (fun t k => XS.aloadN X7.here hx rfl (hb hby dif_10) rfl rfl k) ?_
  show oG p e below _ T7 (mkF m 11 #[.val (.ref o1), .val (.ref s1)] [(.ref s1), (.int 0)])
  refine own_callV X7 hx hZ (y := (⟨"java/lang/String", "coder", "()B"⟩ : MethodName)) (W := 1) (kc := 0) (ks := 0) hown (oW hw 141 rfl) (oW hw 119 rfl) (oW hw 121 rfl) (oW hw 120 rfl) (own_back (W := 1) (rm_co l Z a0 hw [] s1 CS h0 n0 Z0 Cs SC hCS) hZ (oW hw 122 rfl) (oW hw 6 rfl) (by decide) (by decide)) (by decide) (b := s1) Es (g := (mkF m 11 #[.val (.ref o1), .val (.ref s1)] [(.ref s1), (.int 0)])) rfl (by rw [hml]; rfl) (argsL := []) (rest := [(.int 0)]) (lenOf pd_7 rfl) rfl (by show 2 * 0 + _ ≤ _; exact Nat.le_of_eq rfl) (hb hby dif_11) rfl e7 (by decide) (by decide) (fun v11 T11 L11 X11 hQ11 => ?_)
  obtain ⟨rfl, M11, e11⟩ := hQ11
  show oG p e below _ T11 (mkF m 14 #[.val (.ref o1), .val (.ref s1)] [(.int 0), (.int 0)])
  refine oS (fun t k => XS.icmpYes X11.here hx rfl (pc0 := 14) (pc' := 21) rfl (hb hby dif_14) rfl (teq (rfl : (0 : Int32) = 0)).1 (by decide) (by decide) k) ?_
  show oG p e below _ T11 (mkF m 21 #[.val (.ref o1), .val (.ref s1)] [])
  refine own_retV X11 hx hlk hret (hb hby dif_21) ?_ (by decide) (by decide)
  rw [e11]
  exact ⟨rfl, Fr.app N0 M11, rfl⟩
theorem dgv_0 : decode jdk_68_method_64_code 0 = .ok (.aload_n 0, 1) := by decide +kernel
theorem dgv_1 : decode jdk_68_method_64_code 1 = .ok (.getfield 15, 3) := by decide +kernel
theorem dgv_4 : decode jdk_68_method_64_code 4 = .ok (.areturn, 1) := by decide +kernel
theorem efgv (m : MethodId) (x0 : Addr) : entryFrame m #[(.ref x0)] 1 = mkF m 0 #[.val (.ref x0)] [] := by first | (simp [entryFrame, mkF, argsToLocals, Value.category]; done) | rfl
set_option maxRecDepth 65536 in
set_option maxHeartbeats 40000000 in
theorem rm_gv (l : Launch) (Z : State) (a0 : Array Value) (hw : ∀ d ∈ tables_1, d.before a0 Z = true) (ws : List Jvm.Cond) (o1 : Addr) (b1 : Addr) (h0 : Heap) (n0 : Nat) (Z0 : n0 ≤ h0.size) (F1 : Fld Z h0 o1 "java/lang/AbstractStringBuilder" "value" "[B" (.ref b1)) :
    own_Met l Z ws (⟨"java/lang/AbstractStringBuilder", "getValue", "()[B"⟩ : MethodName) jdk_68_method_64_code 1 (some (.array .byte)) ({ frames := 0, cells := 0, slots := 0, locals := 0 } : Room) #[(.ref o1)] h0 (fun v h L => v = some (.ref b1) ∧ Fr n0 L ∧ h = h0) := by
  refine own_body (plainFor_of_name pn_4) ?_
  intro p e s m below meth c s₁ hx hby hml hret hlk hown hnm hZ X0 e0
  have hml : c.maxLocals = 1 := hml
  have hown : s.vm.findClass "java/lang/AbstractStringBuilder" = some m.cls := hown
  have N0 := Fr.nil n0
  refine own_cast (efgv m o1) ?_
  show oG p e below _ s₁ (mkF m 0 #[.val (.ref o1)] [])
  refine oS (fun t k => XS.aloadN X0.here hx rfl (hb hby dgv_0) rfl rfl k) ?_
  show oG p e below _ s₁ (mkF m 1 #[.val (.ref o1)] [(.ref o1)])
  obtain ⟨T1, X1, e1, st1⟩ := getF X0 hx hZ hown (host := "") (Or.inl (oW hw 98 rfl)) Via.refl e0 F1 (g := (mkF m 1 #[.val (.ref o1)] [(.ref o1)])) rfl rfl (hb hby dgv_1)
  refine oS st1 ?_
  show oG p e below _ T1 (mkF m 4 #[.val (.ref o1)] [(.ref b1)])
  refine own_retA X1 hx hlk hret rfl rfl (hb hby dgv_4) ?_ (by decide) (by decide)
  rw [e1]
  exact ⟨rfl, N0, rfl⟩
theorem dal_0 : decode jdk_68_method_6_code 0 = .ok (.aload_n 0, 1) := by decide +kernel
theorem dal_1 : decode jdk_68_method_6_code 1 = .ok (.getfield 79, 3) := by decide +kernel
theorem dal_4 : decode jdk_68_method_6_code 4 = .ok (.ireturn, 1) := by decide +kernel
theorem efal (m : MethodId) (x0 : Addr) : entryFrame m #[(.ref x0)] 1 = mkF m 0 #[.val (.ref x0)] [] := by first | (simp [entryFrame, mkF, argsToLocals, Value.category]; done) | rfl
set_option maxRecDepth 65536 in
set_option maxHeartbeats 40000000 in
theorem rm_al (l : Launch) (Z : State) (a0 : Array Value) (hw : ∀ d ∈ tables_1, d.before a0 Z = true) (ws : List Jvm.Cond) (o1 : Addr) (k1 : Int32) (h0 : Heap) (n0 : Nat) (Z0 : n0 ≤ h0.size) (D1 : Fld Z h0 o1 "java/lang/AbstractStringBuilder" "count" "I" (.int k1)) :
    own_Met l Z ws (⟨"java/lang/AbstractStringBuilder", "length", "()I"⟩ : MethodName) jdk_68_method_6_code 1 (some .int) ({ frames := 0, cells := 0, slots := 0, locals := 0 } : Room) #[(.ref o1)] h0 (fun v h L => v = some (.int k1) ∧ Fr n0 L ∧ h = h0) := by
  refine own_body (plainFor_of_name pn_4) ?_
  intro p e s m below meth c s₁ hx hby hml hret hlk hown hnm hZ X0 e0
  have hml : c.maxLocals = 1 := hml
  have hown : s.vm.findClass "java/lang/AbstractStringBuilder" = some m.cls := hown
  have N0 := Fr.nil n0
  refine own_cast (efal m o1) ?_
  show oG p e below _ s₁ (mkF m 0 #[.val (.ref o1)] [])
  refine oS (fun t k => XS.aloadN X0.here hx rfl (hb hby dal_0) rfl rfl k) ?_
  show oG p e below _ s₁ (mkF m 1 #[.val (.ref o1)] [(.ref o1)])
  obtain ⟨T1, X1, e1, st1⟩ := getF X0 hx hZ hown (host := "") (Or.inl (oW hw 124 rfl)) Via.refl e0 D1 (g := (mkF m 1 #[.val (.ref o1)] [(.ref o1)])) rfl rfl (hb hby dal_1)
  refine oS st1 ?_
  show oG p e below _ T1 (mkF m 4 #[.val (.ref o1)] [(.int k1)])
  refine own_retI X1 hx hlk hret (hb hby dal_4) ?_ (by decide) (by decide)
  rw [e1]
  exact ⟨rfl, N0, rfl⟩
theorem dsl_0 : decode jdk_67_method_93_code 0 = .ok (.aload_n 0, 1) := by decide +kernel
theorem dsl_1 : decode jdk_67_method_93_code 1 = .ok (.invokespecial 343, 3) := by decide +kernel
theorem dsl_4 : decode jdk_67_method_93_code 4 = .ok (.ireturn, 1) := by decide +kernel
theorem efsl (m : MethodId) (x0 : Addr) : entryFrame m #[(.ref x0)] 1 = mkF m 0 #[.val (.ref x0)] [] := by first | (simp [entryFrame, mkF, argsToLocals, Value.category]; done) | rfl
theorem pd_8 : parseMethodDescriptor "()I" = some ⟨[], some .int⟩ := by decide +kernel
set_option maxRecDepth 65536 in
set_option maxHeartbeats 40000000 in
theorem rm_sl (l : Launch) (Z : State) (a0 : Array Value) (hw : ∀ d ∈ tables_1, d.before a0 Z = true) (ws : List Jvm.Cond) (o1 : Addr) (k1 : Int32) (h0 : Heap) (n0 : Nat) (Z0 : n0 ≤ h0.size) (E1 : Exa Z h0 o1 "java/lang/StringBuilder") (D1 : Fld Z h0 o1 "java/lang/AbstractStringBuilder" "count" "I" (.int k1)) :
    own_Met l Z ws (⟨"java/lang/StringBuilder", "length", "()I"⟩ : MethodName) jdk_67_method_93_code 1 (some .int) ({ frames := 1, cells := 0, slots := 0, locals := 12 } : Room) #[(.ref o1)] h0 (fun v h L => v = some (.int k1) ∧ Fr n0 L ∧ h = h0) := by
  refine own_body (plainFor_of_name pn_5) ?_
  intro p e s m below meth c s₁ hx hby hml hret hlk hown hnm hZ X0 e0
  have hml : c.maxLocals = 1 := hml
  have hown : s.vm.findClass "java/lang/StringBuilder" = some m.cls := hown
  have N0 := Fr.nil n0
  refine own_cast (efsl m o1) ?_
  show oG p e below _ s₁ (mkF m 0 #[.val (.ref o1)] [])
  refine oS (fun t k => XS.aloadN X0.here hx rfl (hb hby dsl_0) rfl rfl k) ?_
  show oG p e below _ s₁ (mkF m 1 #[.val (.ref o1)] [(.ref o1)])
  refine own_callUp X0 hx hZ (y := (⟨"java/lang/AbstractStringBuilder", "length", "()I"⟩ : MethodName)) (W := 0) (kc := 0) (ks := 0) hown (oW hw 174 rfl) (own_same (oW hw 129 rfl) rfl (oW hw 170 rfl) (by decide)) (oW hw 170 rfl) (oW hw 110 rfl) (by decide) (oW hw 175 rfl) (own_back (W := 0) (rm_al l Z a0 hw [] o1 k1 h0 n0 Z0 D1) hZ (oW hw 175 rfl) (oW hw 94 rfl) (by decide) (by decide)) (b := o1) E1 (g := (mkF m 1 #[.val (.ref o1)] [(.ref o1)])) rfl (by rw [hml]; rfl) (argsL := []) (rest := []) (lenOf pd_8 rfl) rfl (by show 2 * 0 + _ ≤ _; exact Nat.le_of_eq rfl) (hb hby dsl_1) rfl e0 (by decide) (by decide) (fun v1 T1 L1 X1 hQ1 => ?_)
  obtain ⟨rfl, M1, e1⟩ := hQ1
  show oG p e below _ T1 (mkF m 4 #[.val (.ref o1)] [(.int k1)])
  refine own_retI X1 hx hlk hret (hb hby dsl_4) ?_ (by decide) (by decide)
  rw [e1]
  exact ⟨rfl, Fr.app N0 M1, rfl⟩
theorem dab_0 : decode jdk_68_method_68_code 0 = .ok (.getstatic 18, 3) := by decide +kernel
theorem dab_3 : decode jdk_68_method_68_code 3 = .ok (.ifCond .eq 14, 3) := by decide +kernel
theorem dab_6 : decode jdk_68_method_68_code 6 = .ok (.aload_n 0, 1) := by decide +kernel
theorem dab_7 : decode jdk_68_method_68_code 7 = .ok (.getfield 22, 3) := by decide +kernel
theorem dab_10 : decode jdk_68_method_68_code 10 = .ok (.ifCond .ne 7, 3) := by decide +kernel
theorem dab_13 : decode jdk_68_method_68_code 13 = .ok (.iconst 1, 1) := by decide +kernel
theorem dab_14 : decode jdk_68_method_68_code 14 = .ok (.goto 4, 3) := by decide +kernel
theorem dab_17 : decode jdk_68_method_68_code 17 = .ok (.iconst 0, 1) := by decide +kernel
theorem dab_18 : decode jdk_68_method_68_code 18 = .ok (.ireturn, 1) := by decide +kernel
theorem efab (m : MethodId) (x0 : Addr) : entryFrame m #[(.ref x0)] 1 = mkF m 0 #[.val (.ref x0)] [] := by first | (simp [entryFrame, mkF, argsToLocals, Value.category]; done) | rfl
set_option maxRecDepth 65536 in
set_option maxHeartbeats 40000000 in
theorem rm_ab (l : Launch) (Z : State) (a0 : Array Value) (hw : ∀ d ∈ tables_1, d.before a0 Z = true) (ws : List Jvm.Cond) (o1 : Addr) (CS : Int32) (h0 : Heap) (n0 : Nat) (Z0 : n0 ≤ h0.size) (C1 : Fld Z h0 o1 "java/lang/AbstractStringBuilder" "coder" "B" (.int 0)) (SC : Sta Z h0 "java/lang/String" "COMPACT_STRINGS" "Z" (.int CS)) (hCS : ¬ CS = 0) :
    own_Met l Z ws (⟨"java/lang/AbstractStringBuilder", "isLatin1", "()Z"⟩ : MethodName) jdk_68_method_68_code 1 (some .boolean) ({ frames := 0, cells := 0, slots := 0, locals := 0 } : Room) #[(.ref o1)] h0 (fun v h L => v = some (.int 1) ∧ Fr n0 L ∧ h = h0) := by
  refine own_body (plainFor_of_name pn_4) ?_
  intro p e s m below meth c s₁ hx hby hml hret hlk hown hnm hZ X0 e0
  have hml : c.maxLocals = 1 := hml
  have hown : s.vm.findClass "java/lang/AbstractStringBuilder" = some m.cls := hown
  have N0 := Fr.nil n0
  refine own_cast (efab m o1) ?_
  show oG p e below _ s₁ (mkF m 0 #[.val (.ref o1)] [])
  obtain ⟨T0, X0, e0, st0⟩ := getS2 X0 hx hZ hown (host := "") (Or.inl (oW hw 97 rfl)) Via.refl e0 SC (g := (mkF m 0 #[.val (.ref o1)] [])) rfl (hb hby dab_0)
  refine oS st0 ?_
  show oG p e below _ T0 (mkF m 3 #[.val (.ref o1)] [(.int CS)])
  refine oS (fun t k => XS.ifNo X0.here hx rfl (hb hby dab_3) rfl ((if0 _ _).trans (feq hCS).1) k) ?_
  show oG p e below _ T0 (mkF m 6 #[.val (.ref o1)] [])
  refine oS (fun t k => XS.aloadN X0.here hx rfl (hb hby dab_6) rfl rfl k) ?_
  show oG p e below _ T0 (mkF m 7 #[.val (.ref o1)] [(.ref o1)])
  obtain ⟨T7, X7, e7, st7⟩ := getF X0 hx hZ hown (host := "") (Or.inl (oW hw 100 rfl)) Via.refl e0 C1 (g := (mkF m 7 #[.val (.ref o1)] [(.ref o1)])) rfl rfl (hb hby dab_7)
  refine oS st7 ?_
  show oG p e below _ T7 (mkF m 10 #[.val (.ref o1)] [(.int 0)])
  refine oS (fun t k => XS.ifNo X7.here hx rfl (hb hby dab_10) rfl ((if0 _ _).trans (teq (rfl : (0 : Int32) = 0)).2) k) ?_
  show oG p e below _ T7 (mkF m 13 #[.val (.ref o1)] [])
  refine oS (fun t k => XS.iconst X7.here hx rfl (hb hby dab_13) k) ?_
  refine oS (fun t k => XS.goto X7.here hx rfl (pc0 := 14) (pc' := 18) rfl (hb hby dab_14) (by decide) (by decide) k) ?_
  show oG p e below _ T7 (mkF m 18 #[.val (.ref o1)] [(.int 1)])
  refine own_retN (t := .boolean) X7 hx hlk hret (by simp) (hb hby dab_18) ?_ (by decide) (by decide)
  rw [e7]
  exact ⟨rfl, N0, rfl⟩
theorem dmi_0 : decode jdk_29_method_69_code 0 = .ok (.iload_n 0, 1) := by decide +kernel
theorem dmi_1 : decode jdk_29_method_69_code 1 = .ok (.iload_n 1, 1) := by decide +kernel
theorem dmi_2 : decode jdk_29_method_69_code 2 = .ok (.if_icmp .gt 7, 3) := by decide +kernel
theorem dmi_5 : decode jdk_29_method_69_code 5 = .ok (.iload_n 0, 1) := by decide +kernel
theorem dmi_6 : decode jdk_29_method_69_code 6 = .ok (.goto 4, 3) := by decide +kernel
theorem dmi_9 : decode jdk_29_method_69_code 9 = .ok (.iload_n 1, 1) := by decide +kernel
theorem dmi_10 : decode jdk_29_method_69_code 10 = .ok (.ireturn, 1) := by decide +kernel
theorem efmi (m : MethodId) (x0 : Int32) (x1 : Int32) : entryFrame m #[(.int x0), (.int x1)] 2 = mkF m 0 #[.val (.int x0), .val (.int x1)] [] := by first | (simp [entryFrame, mkF, argsToLocals, Value.category]; done) | rfl
set_option maxRecDepth 65536 in
set_option maxHeartbeats 40000000 in
theorem rm_mi (l : Launch) (Z : State) (a0 : Array Value) (hw : ∀ d ∈ tables_1, d.before a0 Z = true) (ws : List Jvm.Cond) (p1 : Int32) (p2 : Int32) (h0 : Heap) (n0 : Nat) (Z0 : n0 ≤ h0.size) :
    own_Met l Z ws (⟨"java/lang/Math", "min", "(II)I"⟩ : MethodName) jdk_29_method_69_code 2 (some .int) ({ frames := 0, cells := 0, slots := 0, locals := 0 } : Room) #[(.int p1), (.int p2)] h0 (fun v h L => v = some (.int (if p2 < p1 then p2 else p1)) ∧ Fr n0 L ∧ h = h0) := by
  refine own_body (Jvm.Free.JP.mathPlain rfl (by decide +kernel)) ?_
  intro p e s m below meth c s₁ hx hby hml hret hlk hown hnm hZ X0 e0
  have hml : c.maxLocals = 2 := hml
  have hown : s.vm.findClass "java/lang/Math" = some m.cls := hown
  have N0 := Fr.nil n0
  refine own_cast (efmi m p1 p2) ?_
  show oG p e below _ s₁ (mkF m 0 #[.val (.int p1), .val (.int p2)] [])
  refine oS (fun t k => XS.iloadN X0.here hx rfl (hb hby dmi_0) rfl  k) ?_
  refine oS (fun t k => XS.iloadN X0.here hx rfl (hb hby dmi_1) rfl  k) ?_
  show oG p e below _ s₁ (mkF m 2 #[.val (.int p1), .val (.int p2)] [(.int p2), (.int p1)])
  by_cases hc : p2 < p1
  · refine oS (fun t k => XS.icmpYes X0.here hx rfl (pc0 := 2) (pc' := 9) rfl (hb hby dmi_2) rfl (tlt hc).2.2.1 (by decide) (by decide) k) ?_
    show oG p e below _ s₁ (mkF m 9 #[.val (.int p1), .val (.int p2)] [])
    refine oS (fun t k => XS.iloadN X0.here hx rfl (hb hby dmi_9) rfl  k) ?_
    show oG p e below _ s₁ (mkF m 10 #[.val (.int p1), .val (.int p2)] [(.int p2)])
    refine own_retI X0 hx hlk hret (hb hby dmi_10) ?_ (by decide) (by decide)
    rw [e0]
    exact ⟨by rw [if_pos hc], N0, rfl⟩
  · refine oS (fun t k => XS.icmpNo X0.here hx rfl (hb hby dmi_2) rfl (flt hc).2.2.1 k) ?_
    show oG p e below _ s₁ (mkF m 5 #[.val (.int p1), .val (.int p2)] [])
    refine oS (fun t k => XS.iloadN X0.here hx rfl (hb hby dmi_5) rfl  k) ?_
    refine oS (fun t k => XS.goto X0.here hx rfl (pc0 := 6) (pc' := 10) rfl (hb hby dmi_6) (by decide) (by decide) k) ?_
    show oG p e below _ s₁ (mkF m 10 #[.val (.int p1), .val (.int p2)] [(.int p1)])
    refine own_retI X0 hx hlk hret (hb hby dmi_10) ?_ (by decide) (by decide)
    rw [e0]
    exact ⟨by rw [if_neg hc], N0, rfl⟩
theorem den2_0 : decode jdk_68_method_9_code 0 = .ok (.aload_n 0, 1) := by decide +kernel
theorem den2_1 : decode jdk_68_method_9_code 1 = .ok (.getfield 15, 3) := by decide +kernel
theorem den2_4 : decode jdk_68_method_9_code 4 = .ok (.arraylength, 1) := by decide +kernel
theorem den2_5 : decode jdk_68_method_9_code 5 = .ok (.aload_n 0, 1) := by decide +kernel
theorem den2_6 : decode jdk_68_method_9_code 6 = .ok (.getfield 22, 3) := by decide +kernel
theorem den2_9 : decode jdk_68_method_9_code 9 = .ok (.ishr, 1) := by decide +kernel
theorem den2_10 : decode jdk_68_method_9_code 10 = .ok (.istore_n 2, 1) := by decide +kernel
theorem den2_11 : decode jdk_68_method_9_code 11 = .ok (.iload_n 1, 1) := by decide +kernel
theorem den2_12 : decode jdk_68_method_9_code 12 = .ok (.iload_n 2, 1) := by decide +kernel
theorem den2_13 : decode jdk_68_method_9_code 13 = .ok (.isub, 1) := by decide +kernel
theorem den2_14 : decode jdk_68_method_9_code 14 = .ok (.ifCond .le 24, 3) := by decide +kernel
theorem den2_17 : decode jdk_68_method_9_code 17 = .ok (.aload_n 0, 1) := by decide +kernel
theorem den2_18 : decode jdk_68_method_9_code 18 = .ok (.aload_n 0, 1) := by decide +kernel
theorem den2_19 : decode jdk_68_method_9_code 19 = .ok (.getfield 15, 3) := by decide +kernel
theorem den2_22 : decode jdk_68_method_9_code 22 = .ok (.aload_n 0, 1) := by decide +kernel
theorem den2_23 : decode jdk_68_method_9_code 23 = .ok (.iload_n 1, 1) := by decide +kernel
theorem den2_24 : decode jdk_68_method_9_code 24 = .ok (.invokevirtual 104, 3) := by decide +kernel
theorem den2_27 : decode jdk_68_method_9_code 27 = .ok (.aload_n 0, 1) := by decide +kernel
theorem den2_28 : decode jdk_68_method_9_code 28 = .ok (.getfield 22, 3) := by decide +kernel
theorem den2_31 : decode jdk_68_method_9_code 31 = .ok (.ishl, 1) := by decide +kernel
theorem den2_32 : decode jdk_68_method_9_code 32 = .ok (.invokestatic 108, 3) := by decide +kernel
theorem den2_35 : decode jdk_68_method_9_code 35 = .ok (.putfield 15, 3) := by decide +kernel
theorem den2_38 : decode jdk_68_method_9_code 38 = .ok (.return_, 1) := by decide +kernel
theorem efen2 (m : MethodId) (x0 : Addr) (x1 : Int32) : entryFrame m #[(.ref x0), (.int x1)] 3 = mkF m 0 #[.val (.ref x0), .val (.int x1), .unset] [] := by first | (simp [entryFrame, mkF, argsToLocals, Value.category]; done) | rfl
set_option maxRecDepth 65536 in
set_option maxHeartbeats 40000000 in
theorem rm_en2 (l : Launch) (Z : State) (a0 : Array Value) (hw : ∀ d ∈ tables_1, d.before a0 Z = true) (ws : List Jvm.Cond) (o1 : Addr) (b1 : Addr) (kb : ClassId) (vs : List Value) (h0 : Heap) (n0 : Nat) (Z0 : n0 ≤ h0.size) (F1 : Fld Z h0 o1 "java/lang/AbstractStringBuilder" "value" "[B" (.ref b1)) (C1 : Fld Z h0 o1 "java/lang/AbstractStringBuilder" "coder" "B" (.int 0)) (B1 : Arv Z h0 b1 kb .byte (16 : Int32) vs (.int 0)) :
    own_Met l Z ws (⟨"java/lang/AbstractStringBuilder", "ensureCapacityInternal", "(I)V"⟩ : MethodName) jdk_68_method_9_code 3 none ({ frames := 0, cells := 0, slots := 0, locals := 0 } : Room) #[(.ref o1), (.int 2)] h0 (fun v h L => v = none ∧ Fr n0 L ∧ h = h0) := by
  refine own_body (plainFor_of_name pn_4) ?_
  intro p e s m below meth c s₁ hx hby hml hret hlk hown hnm hZ X0 e0
  have hml : c.maxLocals = 3 := hml
  have hown : s.vm.findClass "java/lang/AbstractStringBuilder" = some m.cls := hown
  have N0 := Fr.nil n0
  refine own_cast (efen2 m o1 (2 : Int32)) ?_
  show oG p e below _ s₁ (mkF m 0 #[.val (.ref o1), .val (.int 2), .unset] [])
  refine oS (fun t k => XS.aloadN X0.here hx rfl (hb hby den2_0) rfl rfl k) ?_
  show oG p e below _ s₁ (mkF m 1 #[.val (.ref o1), .val (.int 2), .unset] [(.ref o1)])
  obtain ⟨T1, X1, e1, st1⟩ := getF X0 hx hZ hown (host := "") (Or.inl (oW hw 98 rfl)) Via.refl e0 F1 (g := (mkF m 1 #[.val (.ref o1), .val (.int 2), .unset] [(.ref o1)])) rfl rfl (hb hby den2_1)
  refine oS st1 ?_
  show oG p e below _ T1 (mkF m 4 #[.val (.ref o1), .val (.int 2), .unset] [(.ref b1)])
  obtain ⟨cl4, Ar4, -, S4, M4, -, -⟩ := id B1
  refine oS (X1.arraylength hx (by rw [e1]; exact Ar4.1) (State.isArrayOf_alike hZ.alike Ar4.2.1) (g := (mkF m 4 #[.val (.ref o1), .val (.int 2), .unset] [(.ref b1)])) rfl rfl (hb hby den2_4)) ?_
  rw [len_of S4 M4]
  show oG p e below _ T1 (mkF m 5 #[.val (.ref o1), .val (.int 2), .unset] [(.int 16)])
  refine oS (fun t k => XS.aloadN X1.here hx rfl (hb hby den2_5) rfl rfl k) ?_
  show oG p e below _ T1 (mkF m 6 #[.val (.ref o1), .val (.int 2), .unset] [(.ref o1), (.int 16)])
  obtain ⟨T6, X6, e6, st6⟩ := getF X1 hx hZ hown (host := "") (Or.inl (oW hw 100 rfl)) Via.refl e1 C1 (g := (mkF m 6 #[.val (.ref o1), .val (.int 2), .unset] [(.ref o1), (.int 16)])) rfl rfl (hb hby den2_6)
  refine oS st6 ?_
  show oG p e below _ T6 (mkF m 9 #[.val (.ref o1), .val (.int 2), .unset] [(.int 0), (.int 16)])
  refine oS (fun t k => XS.ishr X6.here hx rfl (hb hby den2_9) rfl k) ?_
  show oG p e below _ T6 (mkF m 10 #[.val (.ref o1), .val (.int 2), .unset] [(.int ((16 : Int32) >>> ((0 : Int32) &&& 31)))])
  rw [(by decide : ((16 : Int32) >>> ((0 : Int32) &&& 31)) = (16 : Int32))]
  show oG p e below _ T6 (mkF m 10 #[.val (.ref o1), .val (.int 2), .unset] [(.int 16)])
  refine oS (fun t k => XS.istoreN X6.here hx rfl (hb hby den2_10) rfl (l' := #[.val (.ref o1), .val (.int 2), .val (.int 16)]) rfl k) ?_
  show oG p e below _ T6 (mkF m 11 #[.val (.ref o1), .val (.int 2), .val (.int 16)] [])
  refine oS (fun t k => XS.iloadN X6.here hx rfl (hb hby den2_11) rfl  k) ?_
  refine oS (fun t k => XS.iloadN X6.here hx rfl (hb hby den2_12) rfl  k) ?_
  refine oS (fun t k => XS.isub X6.here hx rfl (hb hby den2_13) rfl k) ?_
  show oG p e below _ T6 (mkF m 14 #[.val (.ref o1), .val (.int 2), .val (.int 16)] [(.int ((2 : Int32) - (16 : Int32)))])
  refine oS (fun t k => XS.ifYes X6.here hx rfl (pc0 := 14) (pc' := 38) rfl (hb hby den2_14) rfl ((if0 _ _).trans (flt (by decide : ¬ (0 : Int32) < (2 : Int32) - 16)).2.2.2) (by decide) (by decide) k) ?_
  show oG p e below _ T6 (mkF m 38 #[.val (.ref o1), .val (.int 2), .val (.int 16)] [])
  refine own_retV X6 hx hlk hret (hb hby den2_38) ?_ (by decide) (by decide)
  rw [e6]
  exact ⟨rfl, N0, rfl⟩
theorem efen3 (m : MethodId) (x0 : Addr) (x1 : Int32) : entryFrame m #[(.ref x0), (.int x1)] 3 = mkF m 0 #[.val (.ref x0), .val (.int x1), .unset] [] := by first | (simp [entryFrame, mkF, argsToLocals, Value.category]; done) | rfl
set_option maxRecDepth 65536 in
set_option maxHeartbeats 40000000 in
theorem rm_en3 (l : Launch) (Z : State) (a0 : Array Value) (hw : ∀ d ∈ tables_1, d.before a0 Z = true) (ws : List Jvm.Cond) (o1 : Addr) (b1 : Addr) (kb : ClassId) (vs : List Value) (h0 : Heap) (n0 : Nat) (Z0 : n0 ≤ h0.size) (F1 : Fld Z h0 o1 "java/lang/AbstractStringBuilder" "value" "[B" (.ref b1)) (C1 : Fld Z h0 o1 "java/lang/AbstractStringBuilder" "coder" "B" (.int 0)) (B1 : Arv Z h0 b1 kb .byte (16 : Int32) vs (.int 0)) :
    own_Met l Z ws (⟨"java/lang/AbstractStringBuilder", "ensureCapacityInternal", "(I)V"⟩ : MethodName) jdk_68_method_9_code 3 none ({ frames := 0, cells := 0, slots := 0, locals := 0 } : Room) #[(.ref o1), (.int 3)] h0 (fun v h L => v = none ∧ Fr n0 L ∧ h = h0) := by
  refine own_body (plainFor_of_name pn_4) ?_
  intro p e s m below meth c s₁ hx hby hml hret hlk hown hnm hZ X0 e0
  have hml : c.maxLocals = 3 := hml
  have hown : s.vm.findClass "java/lang/AbstractStringBuilder" = some m.cls := hown
  have N0 := Fr.nil n0
  refine own_cast (efen3 m o1 (3 : Int32)) ?_
  show oG p e below _ s₁ (mkF m 0 #[.val (.ref o1), .val (.int 3), .unset] [])
  refine oS (fun t k => XS.aloadN X0.here hx rfl (hb hby den2_0) rfl rfl k) ?_
  show oG p e below _ s₁ (mkF m 1 #[.val (.ref o1), .val (.int 3), .unset] [(.ref o1)])
  obtain ⟨T1, X1, e1, st1⟩ := getF X0 hx hZ hown (host := "") (Or.inl (oW hw 98 rfl)) Via.refl e0 F1 (g := (mkF m 1 #[.val (.ref o1), .val (.int 3), .unset] [(.ref o1)])) rfl rfl (hb hby den2_1)
  refine oS st1 ?_
  show oG p e below _ T1 (mkF m 4 #[.val (.ref o1), .val (.int 3), .unset] [(.ref b1)])
  obtain ⟨cl4, Ar4, -, S4, M4, -, -⟩ := id B1
  refine oS (X1.arraylength hx (by rw [e1]; exact Ar4.1) (State.isArrayOf_alike hZ.alike Ar4.2.1) (g := (mkF m 4 #[.val (.ref o1), .val (.int 3), .unset] [(.ref b1)])) rfl rfl (hb hby den2_4)) ?_
  rw [len_of S4 M4]
  show oG p e below _ T1 (mkF m 5 #[.val (.ref o1), .val (.int 3), .unset] [(.int 16)])
  refine oS (fun t k => XS.aloadN X1.here hx rfl (hb hby den2_5) rfl rfl k) ?_
  show oG p e below _ T1 (mkF m 6 #[.val (.ref o1), .val (.int 3), .unset] [(.ref o1), (.int 16)])
  obtain ⟨T6, X6, e6, st6⟩ := getF X1 hx hZ hown (host := "") (Or.inl (oW hw 100 rfl)) Via.refl e1 C1 (g := (mkF m 6 #[.val (.ref o1), .val (.int 3), .unset] [(.ref o1), (.int 16)])) rfl rfl (hb hby den2_6)
  refine oS st6 ?_
  show oG p e below _ T6 (mkF m 9 #[.val (.ref o1), .val (.int 3), .unset] [(.int 0), (.int 16)])
  refine oS (fun t k => XS.ishr X6.here hx rfl (hb hby den2_9) rfl k) ?_
  show oG p e below _ T6 (mkF m 10 #[.val (.ref o1), .val (.int 3), .unset] [(.int ((16 : Int32) >>> ((0 : Int32) &&& 31)))])
  rw [(by decide : ((16 : Int32) >>> ((0 : Int32) &&& 31)) = (16 : Int32))]
  show oG p e below _ T6 (mkF m 10 #[.val (.ref o1), .val (.int 3), .unset] [(.int 16)])
  refine oS (fun t k => XS.istoreN X6.here hx rfl (hb hby den2_10) rfl (l' := #[.val (.ref o1), .val (.int 3), .val (.int 16)]) rfl k) ?_
  show oG p e below _ T6 (mkF m 11 #[.val (.ref o1), .val (.int 3), .val (.int 16)] [])
  refine oS (fun t k => XS.iloadN X6.here hx rfl (hb hby den2_11) rfl  k) ?_
  refine oS (fun t k => XS.iloadN X6.here hx rfl (hb hby den2_12) rfl  k) ?_
  refine oS (fun t k => XS.isub X6.here hx rfl (hb hby den2_13) rfl k) ?_
  show oG p e below _ T6 (mkF m 14 #[.val (.ref o1), .val (.int 3), .val (.int 16)] [(.int ((3 : Int32) - (16 : Int32)))])
  refine oS (fun t k => XS.ifYes X6.here hx rfl (pc0 := 14) (pc' := 38) rfl (hb hby den2_14) rfl ((if0 _ _).trans (flt (by decide : ¬ (0 : Int32) < (3 : Int32) - 16)).2.2.2) (by decide) (by decide) k) ?_
  show oG p e below _ T6 (mkF m 38 #[.val (.ref o1), .val (.int 3), .val (.int 16)] [])
  refine own_retV X6 hx hlk hret (hb hby den2_38) ?_ (by decide) (by decide)
  rw [e6]
  exact ⟨rfl, N0, rfl⟩
theorem efen4 (m : MethodId) (x0 : Addr) (x1 : Int32) : entryFrame m #[(.ref x0), (.int x1)] 3 = mkF m 0 #[.val (.ref x0), .val (.int x1), .unset] [] := by first | (simp [entryFrame, mkF, argsToLocals, Value.category]; done) | rfl
set_option maxRecDepth 65536 in
set_option maxHeartbeats 40000000 in
theorem rm_en4 (l : Launch) (Z : State) (a0 : Array Value) (hw : ∀ d ∈ tables_1, d.before a0 Z = true) (ws : List Jvm.Cond) (o1 : Addr) (b1 : Addr) (kb : ClassId) (vs : List Value) (h0 : Heap) (n0 : Nat) (Z0 : n0 ≤ h0.size) (F1 : Fld Z h0 o1 "java/lang/AbstractStringBuilder" "value" "[B" (.ref b1)) (C1 : Fld Z h0 o1 "java/lang/AbstractStringBuilder" "coder" "B" (.int 0)) (B1 : Arv Z h0 b1 kb .byte (16 : Int32) vs (.int 0)) :
    own_Met l Z ws (⟨"java/lang/AbstractStringBuilder", "ensureCapacityInternal", "(I)V"⟩ : MethodName) jdk_68_method_9_code 3 none ({ frames := 0, cells := 0, slots := 0, locals := 0 } : Room) #[(.ref o1), (.int 4)] h0 (fun v h L => v = none ∧ Fr n0 L ∧ h = h0) := by
  refine own_body (plainFor_of_name pn_4) ?_
  intro p e s m below meth c s₁ hx hby hml hret hlk hown hnm hZ X0 e0
  have hml : c.maxLocals = 3 := hml
  have hown : s.vm.findClass "java/lang/AbstractStringBuilder" = some m.cls := hown
  have N0 := Fr.nil n0
  refine own_cast (efen4 m o1 (4 : Int32)) ?_
  show oG p e below _ s₁ (mkF m 0 #[.val (.ref o1), .val (.int 4), .unset] [])
  refine oS (fun t k => XS.aloadN X0.here hx rfl (hb hby den2_0) rfl rfl k) ?_
  show oG p e below _ s₁ (mkF m 1 #[.val (.ref o1), .val (.int 4), .unset] [(.ref o1)])
  obtain ⟨T1, X1, e1, st1⟩ := getF X0 hx hZ hown (host := "") (Or.inl (oW hw 98 rfl)) Via.refl e0 F1 (g := (mkF m 1 #[.val (.ref o1), .val (.int 4), .unset] [(.ref o1)])) rfl rfl (hb hby den2_1)
  refine oS st1 ?_
  show oG p e below _ T1 (mkF m 4 #[.val (.ref o1), .val (.int 4), .unset] [(.ref b1)])
  obtain ⟨cl4, Ar4, -, S4, M4, -, -⟩ := id B1
  refine oS (X1.arraylength hx (by rw [e1]; exact Ar4.1) (State.isArrayOf_alike hZ.alike Ar4.2.1) (g := (mkF m 4 #[.val (.ref o1), .val (.int 4), .unset] [(.ref b1)])) rfl rfl (hb hby den2_4)) ?_
  rw [len_of S4 M4]
  show oG p e below _ T1 (mkF m 5 #[.val (.ref o1), .val (.int 4), .unset] [(.int 16)])
  refine oS (fun t k => XS.aloadN X1.here hx rfl (hb hby den2_5) rfl rfl k) ?_
  show oG p e below _ T1 (mkF m 6 #[.val (.ref o1), .val (.int 4), .unset] [(.ref o1), (.int 16)])
  obtain ⟨T6, X6, e6, st6⟩ := getF X1 hx hZ hown (host := "") (Or.inl (oW hw 100 rfl)) Via.refl e1 C1 (g := (mkF m 6 #[.val (.ref o1), .val (.int 4), .unset] [(.ref o1), (.int 16)])) rfl rfl (hb hby den2_6)
  refine oS st6 ?_
  show oG p e below _ T6 (mkF m 9 #[.val (.ref o1), .val (.int 4), .unset] [(.int 0), (.int 16)])
  refine oS (fun t k => XS.ishr X6.here hx rfl (hb hby den2_9) rfl k) ?_
  show oG p e below _ T6 (mkF m 10 #[.val (.ref o1), .val (.int 4), .unset] [(.int ((16 : Int32) >>> ((0 : Int32) &&& 31)))])
  rw [(by decide : ((16 : Int32) >>> ((0 : Int32) &&& 31)) = (16 : Int32))]
  show oG p e below _ T6 (mkF m 10 #[.val (.ref o1), .val (.int 4), .unset] [(.int 16)])
  refine oS (fun t k => XS.istoreN X6.here hx rfl (hb hby den2_10) rfl (l' := #[.val (.ref o1), .val (.int 4), .val (.int 16)]) rfl k) ?_
  show oG p e below _ T6 (mkF m 11 #[.val (.ref o1), .val (.int 4), .val (.int 16)] [])
  refine oS (fun t k => XS.iloadN X6.here hx rfl (hb hby den2_11) rfl  k) ?_
  refine oS (fun t k => XS.iloadN X6.here hx rfl (hb hby den2_12) rfl  k) ?_
  refine oS (fun t k => XS.isub X6.here hx rfl (hb hby den2_13) rfl k) ?_
  show oG p e below _ T6 (mkF m 14 #[.val (.ref o1), .val (.int 4), .val (.int 16)] [(.int ((4 : Int32) - (16 : Int32)))])
  refine oS (fun t k => XS.ifYes X6.here hx rfl (pc0 := 14) (pc' := 38) rfl (hb hby den2_14) rfl ((if0 _ _).trans (flt (by decide : ¬ (0 : Int32) < (4 : Int32) - 16)).2.2.2) (by decide) (by decide) k) ?_
  show oG p e below _ T6 (mkF m 38 #[.val (.ref o1), .val (.int 4), .val (.int 16)] [])
  refine own_retV X6 hx hlk hret (hb hby den2_38) ?_ (by decide) (by decide)
  rw [e6]
  exact ⟨rfl, N0, rfl⟩
theorem efen5 (m : MethodId) (x0 : Addr) (x1 : Int32) : entryFrame m #[(.ref x0), (.int x1)] 3 = mkF m 0 #[.val (.ref x0), .val (.int x1), .unset] [] := by first | (simp [entryFrame, mkF, argsToLocals, Value.category]; done) | rfl
set_option maxRecDepth 65536 in
set_option maxHeartbeats 40000000 in
theorem rm_en5 (l : Launch) (Z : State) (a0 : Array Value) (hw : ∀ d ∈ tables_1, d.before a0 Z = true) (ws : List Jvm.Cond) (o1 : Addr) (b1 : Addr) (kb : ClassId) (vs : List Value) (h0 : Heap) (n0 : Nat) (Z0 : n0 ≤ h0.size) (F1 : Fld Z h0 o1 "java/lang/AbstractStringBuilder" "value" "[B" (.ref b1)) (C1 : Fld Z h0 o1 "java/lang/AbstractStringBuilder" "coder" "B" (.int 0)) (B1 : Arv Z h0 b1 kb .byte (16 : Int32) vs (.int 0)) :
    own_Met l Z ws (⟨"java/lang/AbstractStringBuilder", "ensureCapacityInternal", "(I)V"⟩ : MethodName) jdk_68_method_9_code 3 none ({ frames := 0, cells := 0, slots := 0, locals := 0 } : Room) #[(.ref o1), (.int 5)] h0 (fun v h L => v = none ∧ Fr n0 L ∧ h = h0) := by
  refine own_body (plainFor_of_name pn_4) ?_
  intro p e s m below meth c s₁ hx hby hml hret hlk hown hnm hZ X0 e0
  have hml : c.maxLocals = 3 := hml
  have hown : s.vm.findClass "java/lang/AbstractStringBuilder" = some m.cls := hown
  have N0 := Fr.nil n0
  refine own_cast (efen5 m o1 (5 : Int32)) ?_
  show oG p e below _ s₁ (mkF m 0 #[.val (.ref o1), .val (.int 5), .unset] [])
  refine oS (fun t k => XS.aloadN X0.here hx rfl (hb hby den2_0) rfl rfl k) ?_
  show oG p e below _ s₁ (mkF m 1 #[.val (.ref o1), .val (.int 5), .unset] [(.ref o1)])
  obtain ⟨T1, X1, e1, st1⟩ := getF X0 hx hZ hown (host := "") (Or.inl (oW hw 98 rfl)) Via.refl e0 F1 (g := (mkF m 1 #[.val (.ref o1), .val (.int 5), .unset] [(.ref o1)])) rfl rfl (hb hby den2_1)
  refine oS st1 ?_
  show oG p e below _ T1 (mkF m 4 #[.val (.ref o1), .val (.int 5), .unset] [(.ref b1)])
  obtain ⟨cl4, Ar4, -, S4, M4, -, -⟩ := id B1
  refine oS (X1.arraylength hx (by rw [e1]; exact Ar4.1) (State.isArrayOf_alike hZ.alike Ar4.2.1) (g := (mkF m 4 #[.val (.ref o1), .val (.int 5), .unset] [(.ref b1)])) rfl rfl (hb hby den2_4)) ?_
  rw [len_of S4 M4]
  show oG p e below _ T1 (mkF m 5 #[.val (.ref o1), .val (.int 5), .unset] [(.int 16)])
  refine oS (fun t k => XS.aloadN X1.here hx rfl (hb hby den2_5) rfl rfl k) ?_
  show oG p e below _ T1 (mkF m 6 #[.val (.ref o1), .val (.int 5), .unset] [(.ref o1), (.int 16)])
  obtain ⟨T6, X6, e6, st6⟩ := getF X1 hx hZ hown (host := "") (Or.inl (oW hw 100 rfl)) Via.refl e1 C1 (g := (mkF m 6 #[.val (.ref o1), .val (.int 5), .unset] [(.ref o1), (.int 16)])) rfl rfl (hb hby den2_6)
  refine oS st6 ?_
  show oG p e below _ T6 (mkF m 9 #[.val (.ref o1), .val (.int 5), .unset] [(.int 0), (.int 16)])
  refine oS (fun t k => XS.ishr X6.here hx rfl (hb hby den2_9) rfl k) ?_
  show oG p e below _ T6 (mkF m 10 #[.val (.ref o1), .val (.int 5), .unset] [(.int ((16 : Int32) >>> ((0 : Int32) &&& 31)))])
  rw [(by decide : ((16 : Int32) >>> ((0 : Int32) &&& 31)) = (16 : Int32))]
  show oG p e below _ T6 (mkF m 10 #[.val (.ref o1), .val (.int 5), .unset] [(.int 16)])
  refine oS (fun t k => XS.istoreN X6.here hx rfl (hb hby den2_10) rfl (l' := #[.val (.ref o1), .val (.int 5), .val (.int 16)]) rfl k) ?_
  show oG p e below _ T6 (mkF m 11 #[.val (.ref o1), .val (.int 5), .val (.int 16)] [])
  refine oS (fun t k => XS.iloadN X6.here hx rfl (hb hby den2_11) rfl  k) ?_
  refine oS (fun t k => XS.iloadN X6.here hx rfl (hb hby den2_12) rfl  k) ?_
  refine oS (fun t k => XS.isub X6.here hx rfl (hb hby den2_13) rfl k) ?_
  show oG p e below _ T6 (mkF m 14 #[.val (.ref o1), .val (.int 5), .val (.int 16)] [(.int ((5 : Int32) - (16 : Int32)))])
  refine oS (fun t k => XS.ifYes X6.here hx rfl (pc0 := 14) (pc' := 38) rfl (hb hby den2_14) rfl ((if0 _ _).trans (flt (by decide : ¬ (0 : Int32) < (5 : Int32) - 16)).2.2.2) (by decide) (by decide) k) ?_
  show oG p e below _ T6 (mkF m 38 #[.val (.ref o1), .val (.int 5), .val (.int 16)] [])
  refine own_retV X6 hx hlk hret (hb hby den2_38) ?_ (by decide) (by decide)
  rw [e6]
  exact ⟨rfl, N0, rfl⟩
theorem dgb02_0 : decode jdk_42_method_147_code 0 = .ok (.aload_n 0, 1) := by decide +kernel
theorem dgb02_1 : decode jdk_42_method_147_code 1 = .ok (.invokevirtual 335, 3) := by decide +kernel
theorem dgb02_4 : decode jdk_42_method_147_code 4 = .ok (.iload_n 3, 1) := by decide +kernel
theorem dgb02_5 : decode jdk_42_method_147_code 5 = .ok (.if_icmp .ne 23, 3) := by decide +kernel
theorem dgb02_8 : decode jdk_42_method_147_code 8 = .ok (.aload_n 0, 1) := by decide +kernel
theorem dgb02_9 : decode jdk_42_method_147_code 9 = .ok (.getfield 9, 3) := by decide +kernel
theorem dgb02_12 : decode jdk_42_method_147_code 12 = .ok (.iconst 0, 1) := by decide +kernel
theorem dgb02_13 : decode jdk_42_method_147_code 13 = .ok (.aload_n 1, 1) := by decide +kernel
theorem dgb02_14 : decode jdk_42_method_147_code 14 = .ok (.iload_n 2, 1) := by decide +kernel
theorem dgb02_15 : decode jdk_42_method_147_code 15 = .ok (.iload_n 3, 1) := by decide +kernel
theorem dgb02_16 : decode jdk_42_method_147_code 16 = .ok (.ishl, 1) := by decide +kernel
theorem dgb02_17 : decode jdk_42_method_147_code 17 = .ok (.aload_n 0, 1) := by decide +kernel
theorem dgb02_18 : decode jdk_42_method_147_code 18 = .ok (.getfield 9, 3) := by decide +kernel
theorem dgb02_21 : decode jdk_42_method_147_code 21 = .ok (.arraylength, 1) := by decide +kernel
theorem dgb02_22 : decode jdk_42_method_147_code 22 = .ok (.invokestatic 212, 3) := by decide +kernel
theorem dgb02_25 : decode jdk_42_method_147_code 25 = .ok (.goto 18, 3) := by decide +kernel
theorem dgb02_28 : decode jdk_42_method_147_code 28 = .ok (.aload_n 0, 1) := by decide +kernel
theorem dgb02_29 : decode jdk_42_method_147_code 29 = .ok (.getfield 9, 3) := by decide +kernel
theorem dgb02_32 : decode jdk_42_method_147_code 32 = .ok (.iconst 0, 1) := by decide +kernel
theorem dgb02_33 : decode jdk_42_method_147_code 33 = .ok (.aload_n 1, 1) := by decide +kernel
theorem dgb02_34 : decode jdk_42_method_147_code 34 = .ok (.iload_n 2, 1) := by decide +kernel
theorem dgb02_35 : decode jdk_42_method_147_code 35 = .ok (.aload_n 0, 1) := by decide +kernel
theorem dgb02_36 : decode jdk_42_method_147_code 36 = .ok (.getfield 9, 3) := by decide +kernel
theorem dgb02_39 : decode jdk_42_method_147_code 39 = .ok (.arraylength, 1) := by decide +kernel
theorem dgb02_40 : decode jdk_42_method_147_code 40 = .ok (.invokestatic 106, 3) := by decide +kernel
theorem dgb02_43 : decode jdk_42_method_147_code 43 = .ok (.return_, 1) := by decide +kernel
theorem efgb02 (m : MethodId) (x0 : Addr) (x1 : Addr) (x2 : Int32) (x3 : Int32) : entryFrame m #[(.ref x0), (.ref x1), (.int x2), (.int x3)] 4 = mkF m 0 #[.val (.ref x0), .val (.ref x1), .val (.int x2), .val (.int x3)] [] := by first | (simp [entryFrame, mkF, argsToLocals, Value.category]; done) | rfl
set_option maxRecDepth 65536 in
set_option maxHeartbeats 40000000 in
theorem rm_gb02 (l : Launch) (Z : State) (a0 : Array Value) (hw : ∀ d ∈ tables_1, d.before a0 Z = true) (ws : List Jvm.Cond) (s1 : Addr) (b1 : Addr) (t1 : Addr) (kt : ClassId) (kb : ClassId) (CS : Int32) (c0 : Int32) (c1 : Int32) (d0 : Value) (d1 : Value) (d2 : Value) (d3 : Value) (d4 : Value) (d5 : Value) (d6 : Value) (d7 : Value) (d8 : Value) (d9 : Value) (d10 : Value) (d11 : Value) (d12 : Value) (d13 : Value) (d14 : Value) (d15 : Value) (h0 : Heap) (n0 : Nat) (Z0 : n0 ≤ h0.size) (Es : Exa Z h0 s1 "java/lang/String") (Vs : Fld Z h0 s1 "java/lang/String" "value" "[B" (.ref t1)) (Cs : Fld Z h0 s1 "java/lang/String" "coder" "B" (.int 0)) (At : Arv Z h0 t1 kt .byte (2 : Int32) [(.int (c0.toInt8.toInt32)), (.int (c1.toInt8.toInt32))] (.int 0)) (B1 : Arv Z h0 b1 kb .byte (16 : Int32) [d0, d1, d2, d3, d4, d5, d6, d7, d8, d9, d10, d11, d12, d13, d14, d15] (.int 0)) (gb : n0 ≤ b1) (SC : Sta Z h0 "java/lang/String" "COMPACT_STRINGS" "Z" (.int CS)) (hCS : ¬ CS = 0) :
    own_Met l Z ws (⟨"java/lang/String", "getBytes", "([BIB)V"⟩ : MethodName) jdk_42_method_147_code 4 none ({ frames := 1, cells := 0, slots := 0, locals := 20 } : Room) #[(.ref s1), (.ref b1), (.int 0), (.int 0)] h0 (fun v h L => v = none ∧ Fr n0 L ∧ Keep h0 h [b1] ∧ Arv Z h b1 kb .byte (16 : Int32) [(.int (c0.toInt8.toInt32)), (.int (c1.toInt8.toInt32)), d2, d3, d4, d5, d6, d7, d8, d9, d10, d11, d12, d13, d14, d15] (.int 0)) := by
  refine own_body (plainFor_of_name pn_2) ?_
  intro p e s m below meth c s₁ hx hby hml hret hlk hown hnm hZ X0 e0
  have hml : c.maxLocals = 4 := hml
  have hown : s.vm.findClass "java/lang/String" = some m.cls := hown
  have N0 := Fr.nil n0
  refine own_cast (efgb02 m s1 b1 (0 : Int32) (0 : Int32)) ?_
  show oG p e below _ s₁ (mkF m 0 #[.val (.ref s1), .val (.ref b1), .val (.int 0), .val (.int 0)] [])
  refine oS (fun t k => XS.aloadN X0.here hx rfl (hb hby dgb02_0) rfl rfl k) ?_
  show oG p e below _ s₁ (mkF m 1 #[.val (.ref s1), .val (.ref b1), .val (.int 0), .val (.int 0)] [(.ref s1)])
  refine own_callV X0 hx hZ (y := (⟨"java/lang/String", "coder", "()B"⟩ : MethodName)) (W := 0) (kc := 0) (ks := 0) hown (oW hw 118 rfl) (oW hw 119 rfl) (oW hw 121 rfl) (oW hw 120 rfl) (own_back (W := 0) (rm_co l Z a0 hw [] s1 CS h0 n0 Z0 Cs SC hCS) hZ (oW hw 122 rfl) (oW hw 6 rfl) (by decide) (by decide)) (by decide) (b := s1) Es (g := (mkF m 1 #[.val (.ref s1), .val (.ref b1), .val (.int 0), .val (.int 0)] [(.ref s1)])) rfl (by rw [hml]; rfl) (argsL := []) (rest := []) (lenOf pd_7 rfl) rfl (by show 2 * 0 + _ ≤ _; exact Nat.le_of_eq rfl) (hb hby dgb02_1) rfl e0 (by decide) (by decide) (fun v1 T1 L1 X1 hQ1 => ?_)
  obtain ⟨rfl, M1, e1⟩ := hQ1
  have N1 := Fr.app N0 M1
  show oG p e below _ T1 (mkF m 4 #[.val (.ref s1), .val (.ref b1), .val (.int 0), .val (.int 0)] [(.int 0)])
  refine oS (fun t k => XS.iloadN X1.here hx rfl (hb hby dgb02_4) rfl  k) ?_
  show oG p e below _ T1 (mkF m 5 #[.val (.ref s1), .val (.ref b1), .val (.int 0), .val (.int 0)] [(.int 0), (.int 0)])
  refine oS (fun t k => XS.icmpNo X1.here hx rfl (hb hby dgb02_5) rfl (teq (rfl : (0 : Int32) = 0)).2 k) ?_
  show oG p e below _ T1 (mkF m 8 #[.val (.ref s1), .val (.ref b1), .val (.int 0), .val (.int 0)] [])
  refine oS (fun t k => XS.aloadN X1.here hx rfl (hb hby dgb02_8) rfl rfl k) ?_
  show oG p e below _ T1 (mkF m 9 #[.val (.ref s1), .val (.ref b1), .val (.int 0), .val (.int 0)] [(.ref s1)])
  obtain ⟨T9, X9, e9, st9⟩ := getF X1 hx hZ hown (host := "") (Or.inl (oW hw 24 rfl)) Via.refl e1 Vs (g := (mkF m 9 #[.val (.ref s1), .val (.ref b1), .val (.int 0), .val (.int 0)] [(.ref s1)])) rfl rfl (hb hby dgb02_9)
  refine oS st9 ?_
  show oG p e below _ T9 (mkF m 12 #[.val (.ref s1), .val (.ref b1), .val (.int 0), .val (.int 0)] [(.ref t1)])
  refine oS (fun t k => XS.iconst X9.here hx rfl (hb hby dgb02_12) k) ?_
  refine oS (fun t k => XS.aloadN X9.here hx rfl (hb hby dgb02_13) rfl rfl k) ?_
  refine oS (fun t k => XS.iloadN X9.here hx rfl (hb hby dgb02_14) rfl  k) ?_
  refine oS (fun t k => XS.iloadN X9.here hx rfl (hb hby dgb02_15) rfl  k) ?_
  refine oS (fun t k => XS.ishl X9.here hx rfl (hb hby dgb02_16) rfl k) ?_
  show oG p e below _ T9 (mkF m 17 #[.val (.ref s1), .val (.ref b1), .val (.int 0), .val (.int 0)] [(.int ((0 : Int32) <<< ((0 : Int32) &&& 31))), (.ref b1), (.int 0), (.ref t1)])
  rw [(by decide : ((0 : Int32) <<< ((0 : Int32) &&& 31)) = (0 : Int32))]
  show oG p e below _ T9 (mkF m 17 #[.val (.ref s1), .val (.ref b1), .val (.int 0), .val (.int 0)] [(.int 0), (.ref b1), (.int 0), (.ref t1)])
  refine oS (fun t k => XS.aloadN X9.here hx rfl (hb hby dgb02_17) rfl rfl k) ?_
  show oG p e below _ T9 (mkF m 18 #[.val (.ref s1), .val (.ref b1), .val (.int 0), .val (.int 0)] [(.ref s1), (.int 0), (.ref b1), (.int 0), (.ref t1)])
  obtain ⟨T18, X18, e18, st18⟩ := getF X9 hx hZ hown (host := "") (Or.inl (oW hw 24 rfl)) Via.refl e9 Vs (g := (mkF m 18 #[.val (.ref s1), .val (.ref b1), .val (.int 0), .val (.int 0)] [(.ref s1), (.int 0), (.ref b1), (.int 0), (.ref t1)])) rfl rfl (hb hby dgb02_18)
  refine oS st18 ?_
  show oG p e below _ T18 (mkF m 21 #[.val (.ref s1), .val (.ref b1), .val (.int 0), .val (.int 0)] [(.ref t1), (.int 0), (.ref b1), (.int 0), (.ref t1)])
  obtain ⟨cl21, Ar21, -, S21, M21, -, -⟩ := id At
  refine oS (X18.arraylength hx (by rw [e18]; exact Ar21.1) (State.isArrayOf_alike hZ.alike Ar21.2.1) (g := (mkF m 21 #[.val (.ref s1), .val (.ref b1), .val (.int 0), .val (.int 0)] [(.ref t1), (.int 0), (.ref b1), (.int 0), (.ref t1)])) rfl rfl (hb hby dgb02_21)) ?_
  rw [len_of S21 M21]
  show oG p e below _ T18 (mkF m 22 #[.val (.ref s1), .val (.ref b1), .val (.int 0), .val (.int 0)] [(.int 2), (.int 0), (.ref b1), (.int 0), (.ref t1)])
  obtain ⟨T22, h22, L22, X22, e22, N22, K22c, B22c, st22⟩ := cpA X18 hx hZ hown (oW hw 147 rfl) (oW hw 150 rfl) (oW hw 148 rfl) (oW hw 149 rfl) e18 At B1 (Or.inl ⟨rfl, rfl⟩) (by decide) (by decide) (by decide) (by decide) (by decide) rfl (Nat.le_of_ble_eq_true rfl) N1 gb (g := (mkF m 22 #[.val (.ref s1), .val (.ref b1), .val (.int 0), .val (.int 0)] [(.int 2), (.int 0), (.ref b1), (.int 0), (.ref t1)])) rfl (by rw [hml]; rfl) rfl (hb hby dgb02_22) (by decide) (W := 0) (by show 2 * 0 + _ ≤ _; exact Nat.le_of_eq rfl) (by decide)
  refine oS st22 ?_
  show oG p e below _ T22 (mkF m 25 #[.val (.ref s1), .val (.ref b1), .val (.int 0), .val (.int 0)] [])
  refine oS (fun t k => XS.goto X22.here hx rfl (pc0 := 25) (pc' := 43) rfl (hb hby dgb02_25) (by decide) (by decide) k) ?_
  show oG p e below _ T22 (mkF m 43 #[.val (.ref s1), .val (.ref b1), .val (.int 0), .val (.int 0)] [])
  refine own_retV X22 hx hlk hret (hb hby dgb02_43) ?_ (by decide) (by decide)
  rw [e22]
  exact ⟨rfl, N22, K22c, B22c⟩
theorem dps02_0 : decode jdk_68_method_73_code 0 = .ok (.aload_n 0, 1) := by decide +kernel
theorem dps02_1 : decode jdk_68_method_73_code 1 = .ok (.aload_n 2, 1) := by decide +kernel
theorem dps02_2 : decode jdk_68_method_73_code 2 = .ok (.invokevirtual 397, 3) := by decide +kernel
theorem dps02_5 : decode jdk_68_method_73_code 5 = .ok (.aload_n 2, 1) := by decide +kernel
theorem dps02_6 : decode jdk_68_method_73_code 6 = .ok (.aload_n 0, 1) := by decide +kernel
theorem dps02_7 : decode jdk_68_method_73_code 7 = .ok (.getfield 15, 3) := by decide +kernel
theorem dps02_10 : decode jdk_68_method_73_code 10 = .ok (.iload_n 1, 1) := by decide +kernel
theorem dps02_11 : decode jdk_68_method_73_code 11 = .ok (.aload_n 0, 1) := by decide +kernel
theorem dps02_12 : decode jdk_68_method_73_code 12 = .ok (.getfield 22, 3) := by decide +kernel
theorem dps02_15 : decode jdk_68_method_73_code 15 = .ok (.invokevirtual 399, 3) := by decide +kernel
theorem dps02_18 : decode jdk_68_method_73_code 18 = .ok (.return_, 1) := by decide +kernel
theorem efps02 (m : MethodId) (x0 : Addr) (x1 : Int32) (x2 : Addr) : entryFrame m #[(.ref x0), (.int x1), (.ref x2)] 3 = mkF m 0 #[.val (.ref x0), .val (.int x1), .val (.ref x2)] [] := by first | (simp [entryFrame, mkF, argsToLocals, Value.category]; done) | rfl
theorem pd_9 : parseMethodDescriptor "(Ljava/lang/String;)V" = some ⟨[(.object "java/lang/String")], none⟩ := by decide +kernel
theorem pd_10 : parseMethodDescriptor "([BIB)V" = some ⟨[(.array .byte), .int, .byte], none⟩ := by decide +kernel
set_option maxRecDepth 65536 in
set_option maxHeartbeats 40000000 in
theorem rm_ps02 (l : Launch) (Z : State) (a0 : Array Value) (hw : ∀ d ∈ tables_1, d.before a0 Z = true) (ws : List Jvm.Cond) (o1 : Addr) (b1 : Addr) (s1 : Addr) (t1 : Addr) (kt : ClassId) (kb : ClassId) (CS : Int32) (c0 : Int32) (c1 : Int32) (d0 : Value) (d1 : Value) (d2 : Value) (d3 : Value) (d4 : Value) (d5 : Value) (d6 : Value) (d7 : Value) (d8 : Value) (d9 : Value) (d10 : Value) (d11 : Value) (d12 : Value) (d13 : Value) (d14 : Value) (d15 : Value) (h0 : Heap) (n0 : Nat) (Z0 : n0 ≤ h0.size) (Es : Exa Z h0 s1 "java/lang/String") (Vs : Fld Z h0 s1 "java/lang/String" "value" "[B" (.ref t1)) (Cs : Fld Z h0 s1 "java/lang/String" "coder" "B" (.int 0)) (At : Arv Z h0 t1 kt .byte (2 : Int32) [(.int (c0.toInt8.toInt32)), (.int (c1.toInt8.toInt32))] (.int 0)) (E1 : Exa Z h0 o1 "java/lang/StringBuilder") (F1 : Fld Z h0 o1 "java/lang/AbstractStringBuilder" "value" "[B" (.ref b1)) (C1 : Fld Z h0 o1 "java/lang/AbstractStringBuilder" "coder" "B" (.int 0)) (B1 : Arv Z h0 b1 kb .byte (16 : Int32) [d0, d1, d2, d3, d4, d5, d6, d7, d8, d9, d10, d11, d12, d13, d14, d15] (.int 0)) (gb : n0 ≤ b1) (SC : Sta Z h0 "java/lang/String" "COMPACT_STRINGS" "Z" (.int CS)) (hCS : ¬ CS = 0) :
    own_Met l Z ws (⟨"java/lang/AbstractStringBuilder", "putStringAt", "(ILjava/lang/String;)V"⟩ : MethodName) jdk_68_method_73_code 3 none ({ frames := 2, cells := 0, slots := 0, locals := 40 } : Room) #[(.ref o1), (.int 0), (.ref s1)] h0 (fun v h L => v = none ∧ Fr n0 L ∧ Keep h0 h [b1] ∧ Arv Z h b1 kb .byte (16 : Int32) [(.int (c0.toInt8.toInt32)), (.int (c1.toInt8.toInt32)), d2, d3, d4, d5, d6, d7, d8, d9, d10, d11, d12, d13, d14, d15] (.int 0)) := by
  refine own_body (plainFor_of_name pn_4) ?_
  intro p e s m below meth c s₁ hx hby hml hret hlk hown hnm hZ X0 e0
  have hml : c.maxLocals = 3 := hml
  have hown : s.vm.findClass "java/lang/AbstractStringBuilder" = some m.cls := hown
  have N0 := Fr.nil n0
  refine own_cast (efps02 m o1 (0 : Int32) s1) ?_
  show oG p e below _ s₁ (mkF m 0 #[.val (.ref o1), .val (.int 0), .val (.ref s1)] [])
  refine oS (fun t k => XS.aloadN X0.here hx rfl (hb hby dps02_0) rfl rfl k) ?_
  refine oS (fun t k => XS.aloadN X0.here hx rfl (hb hby dps02_1) rfl rfl k) ?_
  show oG p e below _ s₁ (mkF m 2 #[.val (.ref o1), .val (.int 0), .val (.ref s1)] [(.ref s1), (.ref o1)])
  refine own_callVC X0 hx hZ (y := (⟨"java/lang/AbstractStringBuilder", "inflateIfNeededFor", "(Ljava/lang/String;)V"⟩ : MethodName)) (z := (⟨"java/lang/AbstractStringBuilder", "inflateIfNeededFor", "(Ljava/lang/String;)V"⟩ : MethodName)) (W := 0) (kc := 0) (ks := 0) hown (oW hw 136 rfl) (own_decl (oW hw 137 rfl) (oW hw 140 rfl)) (own_nf (oW hw 129 rfl) rfl hZ) (oW hw 139 rfl) (oW hw 137 rfl) (own_back (W := 0) (rm_if l Z a0 hw [] o1 s1 CS h0 n0 Z0 C1 Es Cs SC hCS) hZ (oW hw 140 rfl) (oW hw 94 rfl) (by decide) (by decide)) (by decide) (b := o1) E1 (g := (mkF m 2 #[.val (.ref o1), .val (.int 0), .val (.ref s1)] [(.ref s1), (.ref o1)])) rfl (by rw [hml]; rfl) (argsL := [(.ref s1)]) (rest := []) (lenOf pd_9 rfl) rfl (by show 2 * 0 + _ ≤ _; exact Nat.le_of_eq rfl) (hb hby dps02_2) rfl e0 (by decide) (by decide) (fun v2 T2 L2 X2 hQ2 => ?_)
  obtain ⟨rfl, M2, e2⟩ := hQ2
  show oG p e below _ T2 (mkF m 5 #[.val (.ref o1), .val (.int 0), .val (.ref s1)] [])
  refine oS (fun t k => XS.aloadN X2.here hx rfl (hb hby dps02_5) rfl rfl k) ?_
  refine oS (fun t k => XS.aloadN X2.here hx rfl (hb hby dps02_6) rfl rfl k) ?_
  show oG p e below _ T2 (mkF m 7 #[.val (.ref o1), .val (.int 0), .val (.ref s1)] [(.ref o1), (.ref s1)])
  obtain ⟨T7, X7, e7, st7⟩ := getF X2 hx hZ hown (host := "") (Or.inl (oW hw 98 rfl)) Via.refl e2 F1 (g := (mkF m 7 #[.val (.ref o1), .val (.int 0), .val (.ref s1)] [(.ref o1), (.ref s1)])) rfl rfl (hb hby dps02_7)
  refine oS st7 ?_
  show oG p e below _ T7 (mkF m 10 #[.val (.ref o1), .val (.int 0), .val (.ref s1)] [(.ref b1), (.ref s1)])
  refine oS (fun t k => XS.iloadN X7.here hx rfl (hb hby dps02_10) rfl  k) ?_
  refine oS (fun t k => XS.aloadN X7.here hx rfl (hb hby dps02_11) rfl rfl k) ?_
  show oG p e below _ T7 (mkF m 12 #[.val (.ref o1), .val (.int 0), .val (.ref s1)] [(.ref o1), (.int 0), (.ref b1), (.ref s1)])
  obtain ⟨T12, X12, e12, st12⟩ := getF X7 hx hZ hown (host := "") (Or.inl (oW hw 100 rfl)) Via.refl e7 C1 (g := (mkF m 12 #[.val (.ref o1), .val (.int 0), .val (.ref s1)] [(.ref o1), (.int 0), (.ref b1), (.ref s1)])) rfl rfl (hb hby dps02_12)
  refine oS st12 ?_
  show oG p e below _ T12 (mkF m 15 #[.val (.ref o1), .val (.int 0), .val (.ref s1)] [(.int 0), (.int 0), (.ref b1), (.ref s1)])
  refine own_callV X12 hx hZ (y := (⟨"java/lang/String", "getBytes", "([BIB)V"⟩ : MethodName)) (W := 0) (kc := 0) (ks := 0) hown (oW hw 142 rfl) (oW hw 143 rfl) (oW hw 145 rfl) (oW hw 144 rfl) (own_back (W := 0) (rm_gb02 l Z a0 hw [] s1 b1 t1 kt kb CS c0 c1 d0 d1 d2 d3 d4 d5 d6 d7 d8 d9 d10 d11 d12 d13 d14 d15 h0 n0 Z0 Es Vs Cs At B1 gb SC hCS) hZ (oW hw 146 rfl) (oW hw 6 rfl) (by decide) (by decide)) (by decide) (b := s1) Es (g := (mkF m 15 #[.val (.ref o1), .val (.int 0), .val (.ref s1)] [(.int 0), (.int 0), (.ref b1), (.ref s1)])) rfl (by rw [hml]; rfl) (argsL := [(.ref b1), (.int 0), (.int 0)]) (rest := []) (lenOf pd_10 rfl) rfl (by show 2 * 0 + _ ≤ _; exact Nat.le_of_eq rfl) (hb hby dps02_15) rfl e12 (by decide) (by decide) (fun v15 T15 L15 X15 hQ15 => ?_)
  obtain ⟨rfl, M15, K15, B15⟩ := hQ15
  show oG p e below _ T15 (mkF m 18 #[.val (.ref o1), .val (.int 0), .val (.ref s1)] [])
  refine own_retV X15 hx hlk hret (hb hby dps02_18) ?_ (by decide) (by decide)
  exact ⟨rfl, Fr.app (Fr.app N0 M2) M15, K15, B15⟩
theorem dap02_0 : decode jdk_68_method_22_code 0 = .ok (.aload_n 1, 1) := by decide +kernel
theorem dap02_1 : decode jdk_68_method_22_code 1 = .ok (.ifnonnull 8, 3) := by decide +kernel
theorem dap02_4 : decode jdk_68_method_22_code 4 = .ok (.aload_n 0, 1) := by decide +kernel
theorem dap02_5 : decode jdk_68_method_22_code 5 = .ok (.invokevirtual 204, 3) := by decide +kernel
theorem dap02_8 : decode jdk_68_method_22_code 8 = .ok (.areturn, 1) := by decide +kernel
theorem dap02_9 : decode jdk_68_method_22_code 9 = .ok (.aload_n 1, 1) := by decide +kernel
theorem dap02_10 : decode jdk_68_method_22_code 10 = .ok (.invokevirtual 32, 3) := by decide +kernel
theorem dap02_13 : decode jdk_68_method_22_code 13 = .ok (.istore_n 2, 1) := by decide +kernel
theorem dap02_14 : decode jdk_68_method_22_code 14 = .ok (.aload_n 0, 1) := by decide +kernel
theorem dap02_15 : decode jdk_68_method_22_code 15 = .ok (.aload_n 0, 1) := by decide +kernel
theorem dap02_16 : decode jdk_68_method_22_code 16 = .ok (.getfield 79, 3) := by decide +kernel
theorem dap02_19 : decode jdk_68_method_22_code 19 = .ok (.iload_n 2, 1) := by decide +kernel
theorem dap02_20 : decode jdk_68_method_22_code 20 = .ok (.iadd, 1) := by decide +kernel
theorem dap02_21 : decode jdk_68_method_22_code 21 = .ok (.invokevirtual 100, 3) := by decide +kernel
theorem dap02_24 : decode jdk_68_method_22_code 24 = .ok (.aload_n 0, 1) := by decide +kernel
theorem dap02_25 : decode jdk_68_method_22_code 25 = .ok (.aload_n 0, 1) := by decide +kernel
theorem dap02_26 : decode jdk_68_method_22_code 26 = .ok (.getfield 79, 3) := by decide +kernel
theorem dap02_29 : decode jdk_68_method_22_code 29 = .ok (.aload_n 1, 1) := by decide +kernel
theorem dap02_30 : decode jdk_68_method_22_code 30 = .ok (.invokevirtual 208, 3) := by decide +kernel
theorem dap02_33 : decode jdk_68_method_22_code 33 = .ok (.aload_n 0, 1) := by decide +kernel
theorem dap02_34 : decode jdk_68_method_22_code 34 = .ok (.dup, 1) := by decide +kernel
theorem dap02_35 : decode jdk_68_method_22_code 35 = .ok (.getfield 79, 3) := by decide +kernel
theorem dap02_38 : decode jdk_68_method_22_code 38 = .ok (.iload_n 2, 1) := by decide +kernel
theorem dap02_39 : decode jdk_68_method_22_code 39 = .ok (.iadd, 1) := by decide +kernel
theorem dap02_40 : decode jdk_68_method_22_code 40 = .ok (.putfield 79, 3) := by decide +kernel
theorem dap02_43 : decode jdk_68_method_22_code 43 = .ok (.aload_n 0, 1) := by decide +kernel
theorem dap02_44 : decode jdk_68_method_22_code 44 = .ok (.areturn, 1) := by decide +kernel
theorem efap02 (m : MethodId) (x0 : Addr) (x1 : Addr) : entryFrame m #[(.ref x0), (.ref x1)] 3 = mkF m 0 #[.val (.ref x0), .val (.ref x1), .unset] [] := by first | (simp [entryFrame, mkF, argsToLocals, Value.category]; done) | rfl
theorem pd_11 : parseMethodDescriptor "(ILjava/lang/String;)V" = some ⟨[.int, (.object "java/lang/String")], none⟩ := by decide +kernel
set_option maxRecDepth 65536 in
set_option maxHeartbeats 40000000 in
theorem rm_ap02 (l : Launch) (Z : State) (a0 : Array Value) (hw : ∀ d ∈ tables_1, d.before a0 Z = true) (ws : List Jvm.Cond) (o1 : Addr) (b1 : Addr) (s1 : Addr) (t1 : Addr) (kt : ClassId) (kb : ClassId) (CS : Int32) (c0 : Int32) (c1 : Int32) (d0 : Value) (d1 : Value) (d2 : Value) (d3 : Value) (d4 : Value) (d5 : Value) (d6 : Value) (d7 : Value) (d8 : Value) (d9 : Value) (d10 : Value) (d11 : Value) (d12 : Value) (d13 : Value) (d14 : Value) (d15 : Value) (h0 : Heap) (n0 : Nat) (Z0 : n0 ≤ h0.size) (Es : Exa Z h0 s1 "java/lang/String") (Vs : Fld Z h0 s1 "java/lang/String" "value" "[B" (.ref t1)) (Cs : Fld Z h0 s1 "java/lang/String" "coder" "B" (.int 0)) (At : Arv Z h0 t1 kt .byte (2 : Int32) [(.int (c0.toInt8.toInt32)), (.int (c1.toInt8.toInt32))] (.int 0)) (E1 : Exa Z h0 o1 "java/lang/StringBuilder") (F1 : Fld Z h0 o1 "java/lang/AbstractStringBuilder" "value" "[B" (.ref b1)) (C1 : Fld Z h0 o1 "java/lang/AbstractStringBuilder" "coder" "B" (.int 0)) (D1 : Fld Z h0 o1 "java/lang/AbstractStringBuilder" "count" "I" (.int 0)) (B1 : Arv Z h0 b1 kb .byte (16 : Int32) [d0, d1, d2, d3, d4, d5, d6, d7, d8, d9, d10, d11, d12, d13, d14, d15] (.int 0)) (go : n0 ≤ o1) (gb : n0 ≤ b1) (hob : o1 ≠ b1) (hp : ∀ c ∈ ([c0, c1] : List Int32), ¬ c < 0 ∧ ¬ (255 : Int32) < c) (SC : Sta Z h0 "java/lang/String" "COMPACT_STRINGS" "Z" (.int CS)) (hCS : ¬ CS = 0) :
    own_Met l Z ws (⟨"java/lang/AbstractStringBuilder", "append", "(Ljava/lang/String;)Ljava/lang/AbstractStringBuilder;"⟩ : MethodName) jdk_68_method_22_code 3 (some (.object "java/lang/AbstractStringBuilder")) ({ frames := 3, cells := 0, slots := 0, locals := 60 } : Room) #[(.ref o1), (.ref s1)] h0 (fun v h L => v = some (.ref o1) ∧ Fr n0 L ∧ Keep h0 h [o1, b1] ∧ Exa Z h o1 "java/lang/StringBuilder" ∧ Fld Z h o1 "java/lang/AbstractStringBuilder" "value" "[B" (.ref b1) ∧ Fld Z h o1 "java/lang/AbstractStringBuilder" "coder" "B" (.int 0) ∧ Fld Z h o1 "java/lang/AbstractStringBuilder" "count" "I" (.int 2) ∧ Arv Z h b1 kb .byte (16 : Int32) [(.int (c0.toInt8.toInt32)), (.int (c1.toInt8.toInt32)), d2, d3, d4, d5, d6, d7, d8, d9, d10, d11, d12, d13, d14, d15] (.int 0)) := by
  refine own_body (plainFor_of_name pn_4) ?_
  intro p e s m below meth c s₁ hx hby hml hret hlk hown hnm hZ X0 e0
  have hml : c.maxLocals = 3 := hml
  have hown : s.vm.findClass "java/lang/AbstractStringBuilder" = some m.cls := hown
  have N0 := Fr.nil n0
  have hln : ∀ d ∈ StrChars.Road.wordsLen, d.before a0 Z = true := fun d hd => hw d ((by decide +kernel : ∀ d ∈ StrChars.Road.wordsLen, d ∈ tables_1) d hd)
  have hcd : StrChars.Road.CodA ([c0, c1] : List Int32) 0 (2 : Int32) [(.int (c0.toInt8.toInt32)), (.int (c1.toInt8.toInt32))] := StrChars.Road.codOf (n := 2) rfl (fun x hx => (hp x hx).2)
  refine own_cast (efap02 m o1 s1) ?_
  show oG p e below _ s₁ (mkF m 0 #[.val (.ref o1), .val (.ref s1), .unset] [])
  refine oS (fun t k => XS.aloadN X0.here hx rfl (hb hby dap02_0) rfl rfl k) ?_
  show oG p e below _ s₁ (mkF m 1 #[.val (.ref o1), .val (.ref s1), .unset] [(.ref s1)])
  refine oS (fun t k => XS.ifnonnullYes X0.here hx rfl (pc0 := 1) (pc' := 9) rfl (hb hby dap02_1) rfl (by decide) (by decide) k) ?_
  show oG p e below _ s₁ (mkF m 9 #[.val (.ref o1), .val (.ref s1), .unset] [])
  refine oS (fun t k => XS.aloadN X0.here hx rfl (hb hby dap02_9) rfl rfl k) ?_
  show oG p e below _ s₁ (mkF m 10 #[.val (.ref o1), .val (.ref s1), .unset] [(.ref s1)])
  refine own_callV X0 hx hZ (y := (⟨"java/lang/String", "length", "()I"⟩ : MethodName)) (W := 0) (Q := (fun v h L => v = some (.int (Int32.ofNat ([c0, c1] : List Int32).length)) ∧ L = [] ∧ h = h0)) (kc := 0) (ks := 0) hown (oW hw 113 rfl) (oW hw 114 rfl) (oW hw 116 rfl) (oW hw 115 rfl) (StrChars.Road.lenW (W := 0) hZ hln (kI := 4) (oW hw 5 rfl) Es Vs Cs At hcd (own_up hp) SC hCS (Nat.le_of_ble_eq_true rfl) (by decide) (by decide)) (by decide) (b := s1) Es (g := (mkF m 10 #[.val (.ref o1), .val (.ref s1), .unset] [(.ref s1)])) rfl (by rw [hml]; rfl) (argsL := []) (rest := []) (lenOf pd_8 rfl) rfl (by show 2 * 0 + _ ≤ _; exact Nat.le_of_eq rfl) (hb hby dap02_10) rfl e0 (by decide) (by decide) (fun v10 T10 L10 X10 hQ10 => ?_)
  obtain ⟨rfl, rfl, e10⟩ := hQ10
  show oG p e below _ T10 (mkF m 13 #[.val (.ref o1), .val (.ref s1), .unset] [(.int 2)])
  refine oS (fun t k => XS.istoreN X10.here hx rfl (hb hby dap02_13) rfl (l' := #[.val (.ref o1), .val (.ref s1), .val (.int 2)]) rfl k) ?_
  show oG p e below _ T10 (mkF m 14 #[.val (.ref o1), .val (.ref s1), .val (.int 2)] [])
  refine oS (fun t k => XS.aloadN X10.here hx rfl (hb hby dap02_14) rfl rfl k) ?_
  refine oS (fun t k => XS.aloadN X10.here hx rfl (hb hby dap02_15) rfl rfl k) ?_
  show oG p e below _ T10 (mkF m 16 #[.val (.ref o1), .val (.ref s1), .val (.int 2)] [(.ref o1), (.ref o1)])
  obtain ⟨T16, X16, e16, st16⟩ := getF X10 hx hZ hown (host := "") (Or.inl (oW hw 124 rfl)) Via.refl e10 D1 (g := (mkF m 16 #[.val (.ref o1), .val (.ref s1), .val (.int 2)] [(.ref o1), (.ref o1)])) rfl rfl (hb hby dap02_16)
  refine oS st16 ?_
  show oG p e below _ T16 (mkF m 19 #[.val (.ref o1), .val (.ref s1), .val (.int 2)] [(.int 0), (.ref o1)])
  refine oS (fun t k => XS.iloadN X16.here hx rfl (hb hby dap02_19) rfl  k) ?_
  refine oS (fun t k => XS.iadd X16.here hx rfl (hb hby dap02_20) rfl k) ?_
  show oG p e below _ T16 (mkF m 21 #[.val (.ref o1), .val (.ref s1), .val (.int 2)] [(.int ((0 : Int32) + (2 : Int32))), (.ref o1)])
  rw [(by decide : ((0 : Int32) + (2 : Int32)) = (2 : Int32))]
  show oG p e below _ T16 (mkF m 21 #[.val (.ref o1), .val (.ref s1), .val (.int 2)] [(.int 2), (.ref o1)])
  refine own_callVC X16 hx hZ (y := (⟨"java/lang/AbstractStringBuilder", "ensureCapacityInternal", "(I)V"⟩ : MethodName)) (z := (⟨"java/lang/AbstractStringBuilder", "ensureCapacityInternal", "(I)V"⟩ : MethodName)) (W := 0) (kc := 0) (ks := 0) hown (oW hw 126 rfl) (own_decl (oW hw 127 rfl) (oW hw 130 rfl)) (own_nf (oW hw 129 rfl) rfl hZ) (oW hw 129 rfl) (oW hw 127 rfl) (own_back (W := 0) (rm_en2 l Z a0 hw [] o1 b1 kb _ h0 n0 Z0 F1 C1 B1) hZ (oW hw 130 rfl) (oW hw 94 rfl) (by decide) (by decide)) (by decide) (b := o1) E1 (g := (mkF m 21 #[.val (.ref o1), .val (.ref s1), .val (.int 2)] [(.int 2), (.ref o1)])) rfl (by rw [hml]; rfl) (argsL := [(.int 2)]) (rest := []) (lenOf pd_6 rfl) rfl (by show 2 * 0 + _ ≤ _; exact Nat.le_of_eq rfl) (hb hby dap02_21) rfl e16 (by decide) (by decide) (fun v21 T21 L21 X21 hQ21 => ?_)
  obtain ⟨rfl, M21, e21⟩ := hQ21
  show oG p e below _ T21 (mkF m 24 #[.val (.ref o1), .val (.ref s1), .val (.int 2)] [])
  refine oS (fun t k => XS.aloadN X21.here hx rfl (hb hby dap02_24) rfl rfl k) ?_
  refine oS (fun t k => XS.aloadN X21.here hx rfl (hb hby dap02_25) rfl rfl k) ?_
  show oG p e below _ T21 (mkF m 26 #[.val (.ref o1), .val (.ref s1), .val (.int 2)] [(.ref o1), (.ref o1)])
  obtain ⟨T26, X26, e26, st26⟩ := getF X21 hx hZ hown (host := "") (Or.inl (oW hw 124 rfl)) Via.refl e21 D1 (g := (mkF m 26 #[.val (.ref o1), .val (.ref s1), .val (.int 2)] [(.ref o1), (.ref o1)])) rfl rfl (hb hby dap02_26)
  refine oS st26 ?_
  show oG p e below _ T26 (mkF m 29 #[.val (.ref o1), .val (.ref s1), .val (.int 2)] [(.int 0), (.ref o1)])
  refine oS (fun t k => XS.aloadN X26.here hx rfl (hb hby dap02_29) rfl rfl k) ?_
  show oG p e below _ T26 (mkF m 30 #[.val (.ref o1), .val (.ref s1), .val (.int 2)] [(.ref s1), (.int 0), (.ref o1)])
  refine own_callVC X26 hx hZ (y := (⟨"java/lang/AbstractStringBuilder", "putStringAt", "(ILjava/lang/String;)V"⟩ : MethodName)) (z := (⟨"java/lang/AbstractStringBuilder", "putStringAt", "(ILjava/lang/String;)V"⟩ : MethodName)) (W := 0) (kc := 0) (ks := 0) hown (oW hw 131 rfl) (own_decl (oW hw 132 rfl) (oW hw 135 rfl)) (own_nf (oW hw 129 rfl) rfl hZ) (oW hw 134 rfl) (oW hw 132 rfl) (own_back (W := 0) (rm_ps02 l Z a0 hw [] o1 b1 s1 t1 kt kb CS c0 c1 d0 d1 d2 d3 d4 d5 d6 d7 d8 d9 d10 d11 d12 d13 d14 d15 h0 n0 Z0 Es Vs Cs At E1 F1 C1 B1 gb SC hCS) hZ (oW hw 135 rfl) (oW hw 94 rfl) (by decide) (by decide)) (by decide) (b := o1) E1 (g := (mkF m 30 #[.val (.ref o1), .val (.ref s1), .val (.int 2)] [(.ref s1), (.int 0), (.ref o1)])) rfl (by rw [hml]; rfl) (argsL := [(.int 0), (.ref s1)]) (rest := []) (lenOf pd_11 rfl) rfl (by show 2 * 0 + _ ≤ _; exact Nat.le_of_eq rfl) (hb hby dap02_30) rfl e26 (by decide) (by decide) (fun v30 T30 L30 X30 hQ30 => ?_)
  obtain ⟨rfl, M30, K30, B30⟩ := hQ30
  have N30 := Fr.app (Fr.app (Fr.app N0 (Fr.nil n0)) M21) M30
  have E30 := E1.keep K30
  have F30 := F1.keep K30 (ninS hob nin0)
  have C30 := C1.keep K30 (ninS hob nin0)
  have D30 := D1.keep K30 (ninS hob nin0)
  show oG p e below _ T30 (mkF m 33 #[.val (.ref o1), .val (.ref s1), .val (.int 2)] [])
  refine oS (fun t k => XS.aloadN X30.here hx rfl (hb hby dap02_33) rfl rfl k) ?_
  refine oS (fun t k => XS.dup X30.here hx rfl (hb hby dap02_34) rfl rfl k) ?_
  show oG p e below _ T30 (mkF m 35 #[.val (.ref o1), .val (.ref s1), .val (.int 2)] [(.ref o1), (.ref o1)])
  obtain ⟨T35, X35, e35, st35⟩ := getF X30 hx hZ hown (host := "") (Or.inl (oW hw 124 rfl)) Via.refl rfl D30 (g := (mkF m 35 #[.val (.ref o1), .val (.ref s1), .val (.int 2)] [(.ref o1), (.ref o1)])) rfl rfl (hb hby dap02_35)
  refine oS st35 ?_
  show oG p e below _ T35 (mkF m 38 #[.val (.ref o1), .val (.ref s1), .val (.int 2)] [(.int 0), (.ref o1)])
  refine oS (fun t k => XS.iloadN X35.here hx rfl (hb hby dap02_38) rfl  k) ?_
  refine oS (fun t k => XS.iadd X35.here hx rfl (hb hby dap02_39) rfl k) ?_
  show oG p e below _ T35 (mkF m 40 #[.val (.ref o1), .val (.ref s1), .val (.int 2)] [(.int ((0 : Int32) + (2 : Int32))), (.ref o1)])
  rw [(by decide : ((0 : Int32) + (2 : Int32)) = (2 : Int32))]
  show oG p e below _ T35 (mkF m 40 #[.val (.ref o1), .val (.ref s1), .val (.int 2)] [(.int 2), (.ref o1)])
  obtain ⟨T40, h40, X40, e40, W40, st40⟩ := putF X35 hx hZ hown (host := "") (Or.inl (oW hw 124 rfl)) Via.refl e35 D30 E30 (Or.inl (oW hw 125 rfl)) (oW hw 85 rfl) (ty := .int) (by decide) rfl rfl (g := (mkF m 40 #[.val (.ref o1), .val (.ref s1), .val (.int 2)] [(.int 2), (.ref o1)])) rfl rfl (hb hby dap02_40)
  refine oS st40 ?_
  have N40 := Fr.snoc X40 N30 go
  have E40_o := E30.wr W40
  have F40_value := F30.other W40 (Or.inr (slot_ne (Or.inl (oW hw 99 rfl)) (Or.inl (oW hw 125 rfl)) (by decide) (t := (.array .byte)) (t' := .int) (by decide) (by decide)))
  have F40_coder := C30.other W40 (Or.inr (slot_ne (Or.inl (oW hw 101 rfl)) (Or.inl (oW hw 125 rfl)) (by decide) (t := .byte) (t' := .int) (by decide) (by decide)))
  have F40_count := D30.same W40
  show oG p e below _ T40 (mkF m 43 #[.val (.ref o1), .val (.ref s1), .val (.int 2)] [])
  have B40 := B30.other W40 hob.symm
  refine oS (fun t k => XS.aloadN X40.here hx rfl (hb hby dap02_43) rfl rfl k) ?_
  show oG p e below _ T40 (mkF m 44 #[.val (.ref o1), .val (.ref s1), .val (.int 2)] [(.ref o1)])
  refine own_retA X40 hx hlk hret rfl rfl (hb hby dap02_44) ?_ (by decide) (by decide)
  rw [e40]
  exact ⟨rfl, N40, ((Keep.refl h0 [o1, b1]).trans K30 (allS (Or.inl (List.mem_of_getElem? (i := 1) rfl)) all0)).wr W40 (Or.inl (List.mem_of_getElem? (i := 0) rfl)), E40_o, F40_value, F40_coder, F40_count, B40⟩
theorem dsa02_0 : decode jdk_67_method_7_code 0 = .ok (.aload_n 0, 1) := by decide +kernel
theorem dsa02_1 : decode jdk_67_method_7_code 1 = .ok (.aload_n 1, 1) := by decide +kernel
theorem dsa02_2 : decode jdk_67_method_7_code 2 = .ok (.invokespecial 29, 3) := by decide +kernel
theorem dsa02_5 : decode jdk_67_method_7_code 5 = .ok (.pop, 1) := by decide +kernel
theorem dsa02_6 : decode jdk_67_method_7_code 6 = .ok (.aload_n 0, 1) := by decide +kernel
theorem dsa02_7 : decode jdk_67_method_7_code 7 = .ok (.areturn, 1) := by decide +kernel
theorem efsa02 (m : MethodId) (x0 : Addr) (x1 : Addr) : entryFrame m #[(.ref x0), (.ref x1)] 2 = mkF m 0 #[.val (.ref x0), .val (.ref x1)] [] := by first | (simp [entryFrame, mkF, argsToLocals, Value.category]; done) | rfl
theorem pd_12 : parseMethodDescriptor "(Ljava/lang/String;)Ljava/lang/AbstractStringBuilder;" = some ⟨[(.object "java/lang/String")], some (.object "java/lang/AbstractStringBuilder")⟩ := by decide +kernel
set_option maxRecDepth 65536 in
set_option maxHeartbeats 40000000 in
theorem rm_sa02 (l : Launch) (Z : State) (a0 : Array Value) (hw : ∀ d ∈ tables_1, d.before a0 Z = true) (ws : List Jvm.Cond) (o1 : Addr) (b1 : Addr) (s1 : Addr) (t1 : Addr) (kt : ClassId) (kb : ClassId) (CS : Int32) (c0 : Int32) (c1 : Int32) (d0 : Value) (d1 : Value) (d2 : Value) (d3 : Value) (d4 : Value) (d5 : Value) (d6 : Value) (d7 : Value) (d8 : Value) (d9 : Value) (d10 : Value) (d11 : Value) (d12 : Value) (d13 : Value) (d14 : Value) (d15 : Value) (h0 : Heap) (n0 : Nat) (Z0 : n0 ≤ h0.size) (Es : Exa Z h0 s1 "java/lang/String") (Vs : Fld Z h0 s1 "java/lang/String" "value" "[B" (.ref t1)) (Cs : Fld Z h0 s1 "java/lang/String" "coder" "B" (.int 0)) (At : Arv Z h0 t1 kt .byte (2 : Int32) [(.int (c0.toInt8.toInt32)), (.int (c1.toInt8.toInt32))] (.int 0)) (E1 : Exa Z h0 o1 "java/lang/StringBuilder") (F1 : Fld Z h0 o1 "java/lang/AbstractStringBuilder" "value" "[B" (.ref b1)) (C1 : Fld Z h0 o1 "java/lang/AbstractStringBuilder" "coder" "B" (.int 0)) (D1 : Fld Z h0 o1 "java/lang/AbstractStringBuilder" "count" "I" (.int 0)) (B1 : Arv Z h0 b1 kb .byte (16 : Int32) [d0, d1, d2, d3, d4, d5, d6, d7, d8, d9, d10, d11, d12, d13, d14, d15] (.int 0)) (go : n0 ≤ o1) (gb : n0 ≤ b1) (hob : o1 ≠ b1) (hp : ∀ c ∈ ([c0, c1] : List Int32), ¬ c < 0 ∧ ¬ (255 : Int32) < c) (SC : Sta Z h0 "java/lang/String" "COMPACT_STRINGS" "Z" (.int CS)) (hCS : ¬ CS = 0) :
    own_Met l Z ws (⟨"java/lang/StringBuilder", "append", "(Ljava/lang/String;)Ljava/lang/StringBuilder;"⟩ : MethodName) jdk_67_method_7_code 2 (some (.object "java/lang/StringBuilder")) ({ frames := 4, cells := 0, slots := 0, locals := 80 } : Room) #[(.ref o1), (.ref s1)] h0 (fun v h L => v = some (.ref o1) ∧ Fr n0 L ∧ Keep h0 h [o1, b1] ∧ Exa Z h o1 "java/lang/StringBuilder" ∧ Fld Z h o1 "java/lang/AbstractStringBuilder" "value" "[B" (.ref b1) ∧ Fld Z h o1 "java/lang/AbstractStringBuilder" "coder" "B" (.int 0) ∧ Fld Z h o1 "java/lang/AbstractStringBuilder" "count" "I" (.int 2) ∧ Arv Z h b1 kb .byte (16 : Int32) [(.int (c0.toInt8.toInt32)), (.int (c1.toInt8.toInt32)), d2, d3, d4, d5, d6, d7, d8, d9, d10, d11, d12, d13, d14, d15] (.int 0)) := by
  refine own_body (plainFor_of_name pn_5) ?_
  intro p e s m below meth c s₁ hx hby hml hret hlk hown hnm hZ X0 e0
  have hml : c.maxLocals = 2 := hml
  have hown : s.vm.findClass "java/lang/StringBuilder" = some m.cls := hown
  have N0 := Fr.nil n0
  refine own_cast (efsa02 m o1 s1) ?_
  show oG p e below _ s₁ (mkF m 0 #[.val (.ref o1), .val (.ref s1)] [])
  refine oS (fun t k => XS.aloadN X0.here hx rfl (hb hby dsa02_0) rfl rfl k) ?_
  refine oS (fun t k => XS.aloadN X0.here hx rfl (hb hby dsa02_1) rfl rfl k) ?_
  show oG p e below _ s₁ (mkF m 2 #[.val (.ref o1), .val (.ref s1)] [(.ref s1), (.ref o1)])
  refine own_callUp X0 hx hZ (y := (⟨"java/lang/AbstractStringBuilder", "append", "(Ljava/lang/String;)Ljava/lang/AbstractStringBuilder;"⟩ : MethodName)) (W := 0) (kc := 0) (ks := 0) hown (oW hw 108 rfl) (own_same (oW hw 129 rfl) rfl (oW hw 109 rfl) (by decide)) (oW hw 109 rfl) (oW hw 110 rfl) (by decide) (oW hw 112 rfl) (own_back (W := 0) (rm_ap02 l Z a0 hw [] o1 b1 s1 t1 kt kb CS c0 c1 d0 d1 d2 d3 d4 d5 d6 d7 d8 d9 d10 d11 d12 d13 d14 d15 h0 n0 Z0 Es Vs Cs At E1 F1 C1 D1 B1 go gb hob hp SC hCS) hZ (oW hw 112 rfl) (oW hw 94 rfl) (by decide) (by decide)) (b := o1) E1 (g := (mkF m 2 #[.val (.ref o1), .val (.ref s1)] [(.ref s1), (.ref o1)])) rfl (by rw [hml]; rfl) (argsL := [(.ref s1)]) (rest := []) (lenOf pd_12 rfl) rfl (by show 2 * 0 + _ ≤ _; exact Nat.le_of_eq rfl) (hb hby dsa02_2) rfl e0 (by decide) (by decide) (fun v2 T2 L2 X2 hQ2 => ?_)
  obtain ⟨rfl, M2, q1, q2, q3, q4, q5, q6⟩ := hQ2
  show oG p e below _ T2 (mkF m 5 #[.val (.ref o1), .val (.ref s1)] [(.ref o1)])
  refine oS (fun t k => XS.pop X2.here hx rfl (hb hby dsa02_5) rfl rfl k) ?_
  show oG p e below _ T2 (mkF m 6 #[.val (.ref o1), .val (.ref s1)] [])
  refine oS (fun t k => XS.aloadN X2.here hx rfl (hb hby dsa02_6) rfl rfl k) ?_
  show oG p e below _ T2 (mkF m 7 #[.val (.ref o1), .val (.ref s1)] [(.ref o1)])
  refine own_retA X2 hx hlk hret rfl rfl (hb hby dsa02_7) ?_ (by decide) (by decide)
  exact ⟨rfl, Fr.app N0 M2, q1, q2, q3, q4, q5, q6⟩
theorem efgb20 (m : MethodId) (x0 : Addr) (x1 : Addr) (x2 : Int32) (x3 : Int32) : entryFrame m #[(.ref x0), (.ref x1), (.int x2), (.int x3)] 4 = mkF m 0 #[.val (.ref x0), .val (.ref x1), .val (.int x2), .val (.int x3)] [] := by first | (simp [entryFrame, mkF, argsToLocals, Value.category]; done) | rfl
set_option maxRecDepth 65536 in
set_option maxHeartbeats 40000000 in
theorem rm_gb20 (l : Launch) (Z : State) (a0 : Array Value) (hw : ∀ d ∈ tables_1, d.before a0 Z = true) (ws : List Jvm.Cond) (s1 : Addr) (b1 : Addr) (t1 : Addr) (kt : ClassId) (kb : ClassId) (CS : Int32) (d0 : Value) (d1 : Value) (d2 : Value) (d3 : Value) (d4 : Value) (d5 : Value) (d6 : Value) (d7 : Value) (d8 : Value) (d9 : Value) (d10 : Value) (d11 : Value) (d12 : Value) (d13 : Value) (d14 : Value) (d15 : Value) (h0 : Heap) (n0 : Nat) (Z0 : n0 ≤ h0.size) (Es : Exa Z h0 s1 "java/lang/String") (Vs : Fld Z h0 s1 "java/lang/String" "value" "[B" (.ref t1)) (Cs : Fld Z h0 s1 "java/lang/String" "coder" "B" (.int 0)) (At : Arv Z h0 t1 kt .byte (0 : Int32) [] (.int 0)) (B1 : Arv Z h0 b1 kb .byte (16 : Int32) [d0, d1, d2, d3, d4, d5, d6, d7, d8, d9, d10, d11, d12, d13, d14, d15] (.int 0)) (gb : n0 ≤ b1) (SC : Sta Z h0 "java/lang/String" "COMPACT_STRINGS" "Z" (.int CS)) (hCS : ¬ CS = 0) :
    own_Met l Z ws (⟨"java/lang/String", "getBytes", "([BIB)V"⟩ : MethodName) jdk_42_method_147_code 4 none ({ frames := 1, cells := 0, slots := 0, locals := 20 } : Room) #[(.ref s1), (.ref b1), (.int 2), (.int 0)] h0 (fun v h L => v = none ∧ Fr n0 L ∧ Keep h0 h [b1] ∧ Arv Z h b1 kb .byte (16 : Int32) [d0, d1, d2, d3, d4, d5, d6, d7, d8, d9, d10, d11, d12, d13, d14, d15] (.int 0)) := by
  refine own_body (plainFor_of_name pn_2) ?_
  intro p e s m below meth c s₁ hx hby hml hret hlk hown hnm hZ X0 e0
  have hml : c.maxLocals = 4 := hml
  have hown : s.vm.findClass "java/lang/String" = some m.cls := hown
  have N0 := Fr.nil n0
  refine own_cast (efgb20 m s1 b1 (2 : Int32) (0 : Int32)) ?_
  show oG p e below _ s₁ (mkF m 0 #[.val (.ref s1), .val (.ref b1), .val (.int 2), .val (.int 0)] [])
  refine oS (fun t k => XS.aloadN X0.here hx rfl (hb hby dgb02_0) rfl rfl k) ?_
  show oG p e below _ s₁ (mkF m 1 #[.val (.ref s1), .val (.ref b1), .val (.int 2), .val (.int 0)] [(.ref s1)])
  refine own_callV X0 hx hZ (y := (⟨"java/lang/String", "coder", "()B"⟩ : MethodName)) (W := 0) (kc := 0) (ks := 0) hown (oW hw 118 rfl) (oW hw 119 rfl) (oW hw 121 rfl) (oW hw 120 rfl) (own_back (W := 0) (rm_co l Z a0 hw [] s1 CS h0 n0 Z0 Cs SC hCS) hZ (oW hw 122 rfl) (oW hw 6 rfl) (by decide) (by decide)) (by decide) (b := s1) Es (g := (mkF m 1 #[.val (.ref s1), .val (.ref b1), .val (.int 2), .val (.int 0)] [(.ref s1)])) rfl (by rw [hml]; rfl) (argsL := []) (rest := []) (lenOf pd_7 rfl) rfl (by show 2 * 0 + _ ≤ _; exact Nat.le_of_eq rfl) (hb hby dgb02_1) rfl e0 (by decide) (by decide) (fun v1 T1 L1 X1 hQ1 => ?_)
  obtain ⟨rfl, M1, e1⟩ := hQ1
  have N1 := Fr.app N0 M1
  show oG p e below _ T1 (mkF m 4 #[.val (.ref s1), .val (.ref b1), .val (.int 2), .val (.int 0)] [(.int 0)])
  refine oS (fun t k => XS.iloadN X1.here hx rfl (hb hby dgb02_4) rfl  k) ?_
  show oG p e below _ T1 (mkF m 5 #[.val (.ref s1), .val (.ref b1), .val (.int 2), .val (.int 0)] [(.int 0), (.int 0)])
  refine oS (fun t k => XS.icmpNo X1.here hx rfl (hb hby dgb02_5) rfl (teq (rfl : (0 : Int32) = 0)).2 k) ?_
  show oG p e below _ T1 (mkF m 8 #[.val (.ref s1), .val (.ref b1), .val (.int 2), .val (.int 0)] [])
  refine oS (fun t k => XS.aloadN X1.here hx rfl (hb hby dgb02_8) rfl rfl k) ?_
  show oG p e below _ T1 (mkF m 9 #[.val (.ref s1), .val (.ref b1), .val (.int 2), .val (.int 0)] [(.ref s1)])
  obtain ⟨T9, X9, e9, st9⟩ := getF X1 hx hZ hown (host := "") (Or.inl (oW hw 24 rfl)) Via.refl e1 Vs (g := (mkF m 9 #[.val (.ref s1), .val (.ref b1), .val (.int 2), .val (.int 0)] [(.ref s1)])) rfl rfl (hb hby dgb02_9)
  refine oS st9 ?_
  show oG p e below _ T9 (mkF m 12 #[.val (.ref s1), .val (.ref b1), .val (.int 2), .val (.int 0)] [(.ref t1)])
  refine oS (fun t k => XS.iconst X9.here hx rfl (hb hby dgb02_12) k) ?_
  refine oS (fun t k => XS.aloadN X9.here hx rfl (hb hby dgb02_13) rfl rfl k) ?_
  refine oS (fun t k => XS.iloadN X9.here hx rfl (hb hby dgb02_14) rfl  k) ?_
  refine oS (fun t k => XS.iloadN X9.here hx rfl (hb hby dgb02_15) rfl  k) ?_
  refine oS (fun t k => XS.ishl X9.here hx rfl (hb hby dgb02_16) rfl k) ?_
  show oG p e below _ T9 (mkF m 17 #[.val (.ref s1), .val (.ref b1), .val (.int 2), .val (.int 0)] [(.int ((2 : Int32) <<< ((0 : Int32) &&& 31))), (.ref b1), (.int 0), (.ref t1)])
  rw [(by decide : ((2 : Int32) <<< ((0 : Int32) &&& 31)) = (2 : Int32))]
  show oG p e below _ T9 (mkF m 17 #[.val (.ref s1), .val (.ref b1), .val (.int 2), .val (.int 0)] [(.int 2), (.ref b1), (.int 0), (.ref t1)])
  refine oS (fun t k => XS.aloadN X9.here hx rfl (hb hby dgb02_17) rfl rfl k) ?_
  show oG p e below _ T9 (mkF m 18 #[.val (.ref s1), .val (.ref b1), .val (.int 2), .val (.int 0)] [(.ref s1), (.int 2), (.ref b1), (.int 0), (.ref t1)])
  obtain ⟨T18, X18, e18, st18⟩ := getF X9 hx hZ hown (host := "") (Or.inl (oW hw 24 rfl)) Via.refl e9 Vs (g := (mkF m 18 #[.val (.ref s1), .val (.ref b1), .val (.int 2), .val (.int 0)] [(.ref s1), (.int 2), (.ref b1), (.int 0), (.ref t1)])) rfl rfl (hb hby dgb02_18)
  refine oS st18 ?_
  show oG p e below _ T18 (mkF m 21 #[.val (.ref s1), .val (.ref b1), .val (.int 2), .val (.int 0)] [(.ref t1), (.int 2), (.ref b1), (.int 0), (.ref t1)])
  obtain ⟨cl21, Ar21, -, S21, M21, -, -⟩ := id At
  refine oS (X18.arraylength hx (by rw [e18]; exact Ar21.1) (State.isArrayOf_alike hZ.alike Ar21.2.1) (g := (mkF m 21 #[.val (.ref s1), .val (.ref b1), .val (.int 2), .val (.int 0)] [(.ref t1), (.int 2), (.ref b1), (.int 0), (.ref t1)])) rfl rfl (hb hby dgb02_21)) ?_
  rw [len_of S21 M21]
  show oG p e below _ T18 (mkF m 22 #[.val (.ref s1), .val (.ref b1), .val (.int 2), .val (.int 0)] [(.int 0), (.int 2), (.ref b1), (.int 0), (.ref t1)])
  obtain ⟨T22, h22, L22, X22, e22, N22, K22c, B22c, st22⟩ := cpA X18 hx hZ hown (oW hw 147 rfl) (oW hw 150 rfl) (oW hw 148 rfl) (oW hw 149 rfl) e18 At B1 (Or.inl ⟨rfl, rfl⟩) (by decide) (by decide) (by decide) (by decide) (by decide) rfl (Nat.le_of_ble_eq_true rfl) N1 gb (g := (mkF m 22 #[.val (.ref s1), .val (.ref b1), .val (.int 2), .val (.int 0)] [(.int 0), (.int 2), (.ref b1), (.int 0), (.ref t1)])) rfl (by rw [hml]; rfl) rfl (hb hby dgb02_22) (by decide) (W := 0) (by show 2 * 0 + _ ≤ _; exact Nat.le_of_eq rfl) (by decide)
  refine oS st22 ?_
  show oG p e below _ T22 (mkF m 25 #[.val (.ref s1), .val (.ref b1), .val (.int 2), .val (.int 0)] [])
  refine oS (fun t k => XS.goto X22.here hx rfl (pc0 := 25) (pc' := 43) rfl (hb hby dgb02_25) (by decide) (by decide) k) ?_
  show oG p e below _ T22 (mkF m 43 #[.val (.ref s1), .val (.ref b1), .val (.int 2), .val (.int 0)] [])
  refine own_retV X22 hx hlk hret (hb hby dgb02_43) ?_ (by decide) (by decide)
  rw [e22]
  exact ⟨rfl, N22, K22c, B22c⟩
theorem efps20 (m : MethodId) (x0 : Addr) (x1 : Int32) (x2 : Addr) : entryFrame m #[(.ref x0), (.int x1), (.ref x2)] 3 = mkF m 0 #[.val (.ref x0), .val (.int x1), .val (.ref x2)] [] := by first | (simp [entryFrame, mkF, argsToLocals, Value.category]; done) | rfl
set_option maxRecDepth 65536 in
set_option maxHeartbeats 40000000 in
theorem rm_ps20 (l : Launch) (Z : State) (a0 : Array Value) (hw : ∀ d ∈ tables_1, d.before a0 Z = true) (ws : List Jvm.Cond) (o1 : Addr) (b1 : Addr) (s1 : Addr) (t1 : Addr) (kt : ClassId) (kb : ClassId) (CS : Int32) (d0 : Value) (d1 : Value) (d2 : Value) (d3 : Value) (d4 : Value) (d5 : Value) (d6 : Value) (d7 : Value) (d8 : Value) (d9 : Value) (d10 : Value) (d11 : Value) (d12 : Value) (d13 : Value) (d14 : Value) (d15 : Value) (h0 : Heap) (n0 : Nat) (Z0 : n0 ≤ h0.size) (Es : Exa Z h0 s1 "java/lang/String") (Vs : Fld Z h0 s1 "java/lang/String" "value" "[B" (.ref t1)) (Cs : Fld Z h0 s1 "java/lang/String" "coder" "B" (.int 0)) (At : Arv Z h0 t1 kt .byte (0 : Int32) [] (.int 0)) (E1 : Exa Z h0 o1 "java/lang/StringBuilder") (F1 : Fld Z h0 o1 "java/lang/AbstractStringBuilder" "value" "[B" (.ref b1)) (C1 : Fld Z h0 o1 "java/lang/AbstractStringBuilder" "coder" "B" (.int 0)) (B1 : Arv Z h0 b1 kb .byte (16 : Int32) [d0, d1, d2, d3, d4, d5, d6, d7, d8, d9, d10, d11, d12, d13, d14, d15] (.int 0)) (gb : n0 ≤ b1) (SC : Sta Z h0 "java/lang/String" "COMPACT_STRINGS" "Z" (.int CS)) (hCS : ¬ CS = 0) :
    own_Met l Z ws (⟨"java/lang/AbstractStringBuilder", "putStringAt", "(ILjava/lang/String;)V"⟩ : MethodName) jdk_68_method_73_code 3 none ({ frames := 2, cells := 0, slots := 0, locals := 40 } : Room) #[(.ref o1), (.int 2), (.ref s1)] h0 (fun v h L => v = none ∧ Fr n0 L ∧ Keep h0 h [b1] ∧ Arv Z h b1 kb .byte (16 : Int32) [d0, d1, d2, d3, d4, d5, d6, d7, d8, d9, d10, d11, d12, d13, d14, d15] (.int 0)) := by
  refine own_body (plainFor_of_name pn_4) ?_
  intro p e s m below meth c s₁ hx hby hml hret hlk hown hnm hZ X0 e0
  have hml : c.maxLocals = 3 := hml
  have hown : s.vm.findClass "java/lang/AbstractStringBuilder" = some m.cls := hown
  have N0 := Fr.nil n0
  refine own_cast (efps20 m o1 (2 : Int32) s1) ?_
  show oG p e below _ s₁ (mkF m 0 #[.val (.ref o1), .val (.int 2), .val (.ref s1)] [])
  refine oS (fun t k => XS.aloadN X0.here hx rfl (hb hby dps02_0) rfl rfl k) ?_
  refine oS (fun t k => XS.aloadN X0.here hx rfl (hb hby dps02_1) rfl rfl k) ?_
  show oG p e below _ s₁ (mkF m 2 #[.val (.ref o1), .val (.int 2), .val (.ref s1)] [(.ref s1), (.ref o1)])
  refine own_callVC X0 hx hZ (y := (⟨"java/lang/AbstractStringBuilder", "inflateIfNeededFor", "(Ljava/lang/String;)V"⟩ : MethodName)) (z := (⟨"java/lang/AbstractStringBuilder", "inflateIfNeededFor", "(Ljava/lang/String;)V"⟩ : MethodName)) (W := 0) (kc := 0) (ks := 0) hown (oW hw 136 rfl) (own_decl (oW hw 137 rfl) (oW hw 140 rfl)) (own_nf (oW hw 129 rfl) rfl hZ) (oW hw 139 rfl) (oW hw 137 rfl) (own_back (W := 0) (rm_if l Z a0 hw [] o1 s1 CS h0 n0 Z0 C1 Es Cs SC hCS) hZ (oW hw 140 rfl) (oW hw 94 rfl) (by decide) (by decide)) (by decide) (b := o1) E1 (g := (mkF m 2 #[.val (.ref o1), .val (.int 2), .val (.ref s1)] [(.ref s1), (.ref o1)])) rfl (by rw [hml]; rfl) (argsL := [(.ref s1)]) (rest := []) (lenOf pd_9 rfl) rfl (by show 2 * 0 + _ ≤ _; exact Nat.le_of_eq rfl) (hb hby dps02_2) rfl e0 (by decide) (by decide) (fun v2 T2 L2 X2 hQ2 => ?_)
  obtain ⟨rfl, M2, e2⟩ := hQ2
  show oG p e below _ T2 (mkF m 5 #[.val (.ref o1), .val (.int 2), .val (.ref s1)] [])
  refine oS (fun t k => XS.aloadN X2.here hx rfl (hb hby dps02_5) rfl rfl k) ?_
  refine oS (fun t k => XS.aloadN X2.here hx rfl (hb hby dps02_6) rfl rfl k) ?_
  show oG p e below _ T2 (mkF m 7 #[.val (.ref o1), .val (.int 2), .val (.ref s1)] [(.ref o1), (.ref s1)])
  obtain ⟨T7, X7, e7, st7⟩ := getF X2 hx hZ hown (host := "") (Or.inl (oW hw 98 rfl)) Via.refl e2 F1 (g := (mkF m 7 #[.val (.ref o1), .val (.int 2), .val (.ref s1)] [(.ref o1), (.ref s1)])) rfl rfl (hb hby dps02_7)
  refine oS st7 ?_
  show oG p e below _ T7 (mkF m 10 #[.val (.ref o1), .val (.int 2), .val (.ref s1)] [(.ref b1), (.ref s1)])
  refine oS (fun t k => XS.iloadN X7.here hx rfl (hb hby dps02_10) rfl  k) ?_
  refine oS (fun t k => XS.aloadN X7.here hx rfl (hb hby dps02_11) rfl rfl k) ?_
  show oG p e below _ T7 (mkF m 12 #[.val (.ref o1), .val (.int 2), .val (.ref s1)] [(.ref o1), (.int 2), (.ref b1), (.ref s1)])
  obtain ⟨T12, X12, e12, st12⟩ := getF X7 hx hZ hown (host := "") (Or.inl (oW hw 100 rfl)) Via.refl e7 C1 (g := (mkF m 12 #[.val (.ref o1), .val (.int 2), .val (.ref s1)] [(.ref o1), (.int 2), (.ref b1), (.ref s1)])) rfl rfl (hb hby dps02_12)
  refine oS st12 ?_
  show oG p e below _ T12 (mkF m 15 #[.val (.ref o1), .val (.int 2), .val (.ref s1)] [(.int 0), (.int 2), (.ref b1), (.ref s1)])
  refine own_callV X12 hx hZ (y := (⟨"java/lang/String", "getBytes", "([BIB)V"⟩ : MethodName)) (W := 0) (kc := 0) (ks := 0) hown (oW hw 142 rfl) (oW hw 143 rfl) (oW hw 145 rfl) (oW hw 144 rfl) (own_back (W := 0) (rm_gb20 l Z a0 hw [] s1 b1 t1 kt kb CS  d0 d1 d2 d3 d4 d5 d6 d7 d8 d9 d10 d11 d12 d13 d14 d15 h0 n0 Z0 Es Vs Cs At B1 gb SC hCS) hZ (oW hw 146 rfl) (oW hw 6 rfl) (by decide) (by decide)) (by decide) (b := s1) Es (g := (mkF m 15 #[.val (.ref o1), .val (.int 2), .val (.ref s1)] [(.int 0), (.int 2), (.ref b1), (.ref s1)])) rfl (by rw [hml]; rfl) (argsL := [(.ref b1), (.int 2), (.int 0)]) (rest := []) (lenOf pd_10 rfl) rfl (by show 2 * 0 + _ ≤ _; exact Nat.le_of_eq rfl) (hb hby dps02_15) rfl e12 (by decide) (by decide) (fun v15 T15 L15 X15 hQ15 => ?_)
  obtain ⟨rfl, M15, K15, B15⟩ := hQ15
  show oG p e below _ T15 (mkF m 18 #[.val (.ref o1), .val (.int 2), .val (.ref s1)] [])
  refine own_retV X15 hx hlk hret (hb hby dps02_18) ?_ (by decide) (by decide)
  exact ⟨rfl, Fr.app (Fr.app N0 M2) M15, K15, B15⟩
theorem efap20 (m : MethodId) (x0 : Addr) (x1 : Addr) : entryFrame m #[(.ref x0), (.ref x1)] 3 = mkF m 0 #[.val (.ref x0), .val (.ref x1), .unset] [] := by first | (simp [entryFrame, mkF, argsToLocals, Value.category]; done) | rfl
set_option maxRecDepth 65536 in
set_option maxHeartbeats 40000000 in
theorem rm_ap20 (l : Launch) (Z : State) (a0 : Array Value) (hw : ∀ d ∈ tables_1, d.before a0 Z = true) (ws : List Jvm.Cond) (o1 : Addr) (b1 : Addr) (s1 : Addr) (t1 : Addr) (kt : ClassId) (kb : ClassId) (CS : Int32) (d0 : Value) (d1 : Value) (d2 : Value) (d3 : Value) (d4 : Value) (d5 : Value) (d6 : Value) (d7 : Value) (d8 : Value) (d9 : Value) (d10 : Value) (d11 : Value) (d12 : Value) (d13 : Value) (d14 : Value) (d15 : Value) (h0 : Heap) (n0 : Nat) (Z0 : n0 ≤ h0.size) (Es : Exa Z h0 s1 "java/lang/String") (Vs : Fld Z h0 s1 "java/lang/String" "value" "[B" (.ref t1)) (Cs : Fld Z h0 s1 "java/lang/String" "coder" "B" (.int 0)) (At : Arv Z h0 t1 kt .byte (0 : Int32) [] (.int 0)) (E1 : Exa Z h0 o1 "java/lang/StringBuilder") (F1 : Fld Z h0 o1 "java/lang/AbstractStringBuilder" "value" "[B" (.ref b1)) (C1 : Fld Z h0 o1 "java/lang/AbstractStringBuilder" "coder" "B" (.int 0)) (D1 : Fld Z h0 o1 "java/lang/AbstractStringBuilder" "count" "I" (.int 2)) (B1 : Arv Z h0 b1 kb .byte (16 : Int32) [d0, d1, d2, d3, d4, d5, d6, d7, d8, d9, d10, d11, d12, d13, d14, d15] (.int 0)) (go : n0 ≤ o1) (gb : n0 ≤ b1) (hob : o1 ≠ b1) (hp : ∀ c ∈ ([] : List Int32), ¬ c < 0 ∧ ¬ (255 : Int32) < c) (SC : Sta Z h0 "java/lang/String" "COMPACT_STRINGS" "Z" (.int CS)) (hCS : ¬ CS = 0) :
    own_Met l Z ws (⟨"java/lang/AbstractStringBuilder", "append", "(Ljava/lang/String;)Ljava/lang/AbstractStringBuilder;"⟩ : MethodName) jdk_68_method_22_code 3 (some (.object "java/lang/AbstractStringBuilder")) ({ frames := 3, cells := 0, slots := 0, locals := 60 } : Room) #[(.ref o1), (.ref s1)] h0 (fun v h L => v = some (.ref o1) ∧ Fr n0 L ∧ Keep h0 h [o1, b1] ∧ Exa Z h o1 "java/lang/StringBuilder" ∧ Fld Z h o1 "java/lang/AbstractStringBuilder" "value" "[B" (.ref b1) ∧ Fld Z h o1 "java/lang/AbstractStringBuilder" "coder" "B" (.int 0) ∧ Fld Z h o1 "java/lang/AbstractStringBuilder" "count" "I" (.int 2) ∧ Arv Z h b1 kb .byte (16 : Int32) [d0, d1, d2, d3, d4, d5, d6, d7, d8, d9, d10, d11, d12, d13, d14, d15] (.int 0)) := by
  refine own_body (plainFor_of_name pn_4) ?_
  intro p e s m below meth c s₁ hx hby hml hret hlk hown hnm hZ X0 e0
  have hml : c.maxLocals = 3 := hml
  have hown : s.vm.findClass "java/lang/AbstractStringBuilder" = some m.cls := hown
  have N0 := Fr.nil n0
  have hln : ∀ d ∈ StrChars.Road.wordsLen, d.before a0 Z = true := fun d hd => hw d ((by decide +kernel : ∀ d ∈ StrChars.Road.wordsLen, d ∈ tables_1) d hd)
  have hcd : StrChars.Road.CodA ([] : List Int32) 0 (0 : Int32) [] := StrChars.Road.codOf (n := 0) rfl (fun x hx => (hp x hx).2)
  refine own_cast (efap20 m o1 s1) ?_
  show oG p e below _ s₁ (mkF m 0 #[.val (.ref o1), .val (.ref s1), .unset] [])
  refine oS (fun t k => XS.aloadN X0.here hx rfl (hb hby dap02_0) rfl rfl k) ?_
  show oG p e below _ s₁ (mkF m 1 #[.val (.ref o1), .val (.ref s1), .unset] [(.ref s1)])
  refine oS (fun t k => XS.ifnonnullYes X0.here hx rfl (pc0 := 1) (pc' := 9) rfl (hb hby dap02_1) rfl (by decide) (by decide) k) ?_
  show oG p e below _ s₁ (mkF m 9 #[.val (.ref o1), .val (.ref s1), .unset] [])
  refine oS (fun t k => XS.aloadN X0.here hx rfl (hb hby dap02_9) rfl rfl k) ?_
  show oG p e below _ s₁ (mkF m 10 #[.val (.ref o1), .val (.ref s1), .unset] [(.ref s1)])
  refine own_callV X0 hx hZ (y := (⟨"java/lang/String", "length", "()I"⟩ : MethodName)) (W := 0) (Q := (fun v h L => v = some (.int (Int32.ofNat ([] : List Int32).length)) ∧ L = [] ∧ h = h0)) (kc := 0) (ks := 0) hown (oW hw 113 rfl) (oW hw 114 rfl) (oW hw 116 rfl) (oW hw 115 rfl) (StrChars.Road.lenW (W := 0) hZ hln (kI := 4) (oW hw 5 rfl) Es Vs Cs At hcd (own_up hp) SC hCS (Nat.le_of_ble_eq_true rfl) (by decide) (by decide)) (by decide) (b := s1) Es (g := (mkF m 10 #[.val (.ref o1), .val (.ref s1), .unset] [(.ref s1)])) rfl (by rw [hml]; rfl) (argsL := []) (rest := []) (lenOf pd_8 rfl) rfl (by show 2 * 0 + _ ≤ _; exact Nat.le_of_eq rfl) (hb hby dap02_10) rfl e0 (by decide) (by decide) (fun v10 T10 L10 X10 hQ10 => ?_)
  obtain ⟨rfl, rfl, e10⟩ := hQ10
  show oG p e below _ T10 (mkF m 13 #[.val (.ref o1), .val (.ref s1), .unset] [(.int 0)])
  refine oS (fun t k => XS.istoreN X10.here hx rfl (hb hby dap02_13) rfl (l' := #[.val (.ref o1), .val (.ref s1), .val (.int 0)]) rfl k) ?_
  show oG p e below _ T10 (mkF m 14 #[.val (.ref o1), .val (.ref s1), .val (.int 0)] [])
  refine oS (fun t k => XS.aloadN X10.here hx rfl (hb hby dap02_14) rfl rfl k) ?_
  refine oS (fun t k => XS.aloadN X10.here hx rfl (hb hby dap02_15) rfl rfl k) ?_
  show oG p e below _ T10 (mkF m 16 #[.val (.ref o1), .val (.ref s1), .val (.int 0)] [(.ref o1), (.ref o1)])
  obtain ⟨T16, X16, e16, st16⟩ := getF X10 hx hZ hown (host := "") (Or.inl (oW hw 124 rfl)) Via.refl e10 D1 (g := (mkF m 16 #[.val (.ref o1), .val (.ref s1), .val (.int 0)] [(.ref o1), (.ref o1)])) rfl rfl (hb hby dap02_16)
  refine oS st16 ?_
  show oG p e below _ T16 (mkF m 19 #[.val (.ref o1), .val (.ref s1), .val (.int 0)] [(.int 2), (.ref o1)])
  refine oS (fun t k => XS.iloadN X16.here hx rfl (hb hby dap02_19) rfl  k) ?_
  refine oS (fun t k => XS.iadd X16.here hx rfl (hb hby dap02_20) rfl k) ?_
  show oG p e below _ T16 (mkF m 21 #[.val (.ref o1), .val (.ref s1), .val (.int 0)] [(.int ((2 : Int32) + (0 : Int32))), (.ref o1)])
  rw [(by decide : ((2 : Int32) + (0 : Int32)) = (2 : Int32))]
  show oG p e below _ T16 (mkF m 21 #[.val (.ref o1), .val (.ref s1), .val (.int 0)] [(.int 2), (.ref o1)])
  refine own_callVC X16 hx hZ (y := (⟨"java/lang/AbstractStringBuilder", "ensureCapacityInternal", "(I)V"⟩ : MethodName)) (z := (⟨"java/lang/AbstractStringBuilder", "ensureCapacityInternal", "(I)V"⟩ : MethodName)) (W := 0) (kc := 0) (ks := 0) hown (oW hw 126 rfl) (own_decl (oW hw 127 rfl) (oW hw 130 rfl)) (own_nf (oW hw 129 rfl) rfl hZ) (oW hw 129 rfl) (oW hw 127 rfl) (own_back (W := 0) (rm_en2 l Z a0 hw [] o1 b1 kb _ h0 n0 Z0 F1 C1 B1) hZ (oW hw 130 rfl) (oW hw 94 rfl) (by decide) (by decide)) (by decide) (b := o1) E1 (g := (mkF m 21 #[.val (.ref o1), .val (.ref s1), .val (.int 0)] [(.int 2), (.ref o1)])) rfl (by rw [hml]; rfl) (argsL := [(.int 2)]) (rest := []) (lenOf pd_6 rfl) rfl (by show 2 * 0 + _ ≤ _; exact Nat.le_of_eq rfl) (hb hby dap02_21) rfl e16 (by decide) (by decide) (fun v21 T21 L21 X21 hQ21 => ?_)
  obtain ⟨rfl, M21, e21⟩ := hQ21
  show oG p e below _ T21 (mkF m 24 #[.val (.ref o1), .val (.ref s1), .val (.int 0)] [])
  refine oS (fun t k => XS.aloadN X21.here hx rfl (hb hby dap02_24) rfl rfl k) ?_
  refine oS (fun t k => XS.aloadN X21.here hx rfl (hb hby dap02_25) rfl rfl k) ?_
  show oG p e below _ T21 (mkF m 26 #[.val (.ref o1), .val (.ref s1), .val (.int 0)] [(.ref o1), (.ref o1)])
  obtain ⟨T26, X26, e26, st26⟩ := getF X21 hx hZ hown (host := "") (Or.inl (oW hw 124 rfl)) Via.refl e21 D1 (g := (mkF m 26 #[.val (.ref o1), .val (.ref s1), .val (.int 0)] [(.ref o1), (.ref o1)])) rfl rfl (hb hby dap02_26)
  refine oS st26 ?_
  show oG p e below _ T26 (mkF m 29 #[.val (.ref o1), .val (.ref s1), .val (.int 0)] [(.int 2), (.ref o1)])
  refine oS (fun t k => XS.aloadN X26.here hx rfl (hb hby dap02_29) rfl rfl k) ?_
  show oG p e below _ T26 (mkF m 30 #[.val (.ref o1), .val (.ref s1), .val (.int 0)] [(.ref s1), (.int 2), (.ref o1)])
  refine own_callVC X26 hx hZ (y := (⟨"java/lang/AbstractStringBuilder", "putStringAt", "(ILjava/lang/String;)V"⟩ : MethodName)) (z := (⟨"java/lang/AbstractStringBuilder", "putStringAt", "(ILjava/lang/String;)V"⟩ : MethodName)) (W := 0) (kc := 0) (ks := 0) hown (oW hw 131 rfl) (own_decl (oW hw 132 rfl) (oW hw 135 rfl)) (own_nf (oW hw 129 rfl) rfl hZ) (oW hw 134 rfl) (oW hw 132 rfl) (own_back (W := 0) (rm_ps20 l Z a0 hw [] o1 b1 s1 t1 kt kb CS  d0 d1 d2 d3 d4 d5 d6 d7 d8 d9 d10 d11 d12 d13 d14 d15 h0 n0 Z0 Es Vs Cs At E1 F1 C1 B1 gb SC hCS) hZ (oW hw 135 rfl) (oW hw 94 rfl) (by decide) (by decide)) (by decide) (b := o1) E1 (g := (mkF m 30 #[.val (.ref o1), .val (.ref s1), .val (.int 0)] [(.ref s1), (.int 2), (.ref o1)])) rfl (by rw [hml]; rfl) (argsL := [(.int 2), (.ref s1)]) (rest := []) (lenOf pd_11 rfl) rfl (by show 2 * 0 + _ ≤ _; exact Nat.le_of_eq rfl) (hb hby dap02_30) rfl e26 (by decide) (by decide) (fun v30 T30 L30 X30 hQ30 => ?_)
  obtain ⟨rfl, M30, K30, B30⟩ := hQ30
  have N30 := Fr.app (Fr.app (Fr.app N0 (Fr.nil n0)) M21) M30
  have E30 := E1.keep K30
  have F30 := F1.keep K30 (ninS hob nin0)
  have C30 := C1.keep K30 (ninS hob nin0)
  have D30 := D1.keep K30 (ninS hob nin0)
  show oG p e below _ T30 (mkF m 33 #[.val (.ref o1), .val (.ref s1), .val (.int 0)] [])
  refine oS (fun t k => XS.aloadN X30.here hx rfl (hb hby dap02_33) rfl rfl k) ?_
  refine oS (fun t k => XS.dup X30.here hx rfl (hb hby dap02_34) rfl rfl k) ?_
  show oG p e below _ T30 (mkF m 35 #[.val (.ref o1), .val (.ref s1), .val (.int 0)] [(.ref o1), (.ref o1)])
  obtain ⟨T35, X35, e35, st35⟩ := getF X30 hx hZ hown (host := "") (Or.inl (oW hw 124 rfl)) Via.refl rfl D30 (g := (mkF m 35 #[.val (.ref o1), .val (.ref s1), .val (.int 0)] [(.ref o1), (.ref o1)])) rfl rfl (hb hby dap02_35)
  refine oS st35 ?_
  show oG p e below _ T35 (mkF m 38 #[.val (.ref o1), .val (.ref s1), .val (.int 0)] [(.int 2), (.ref o1)])
  refine oS (fun t k => XS.iloadN X35.here hx rfl (hb hby dap02_38) rfl  k) ?_
  refine oS (fun t k => XS.iadd X35.here hx rfl (hb hby dap02_39) rfl k) ?_
  show oG p e below _ T35 (mkF m 40 #[.val (.ref o1), .val (.ref s1), .val (.int 0)] [(.int ((2 : Int32) + (0 : Int32))), (.ref o1)])
  rw [(by decide : ((2 : Int32) + (0 : Int32)) = (2 : Int32))]
  show oG p e below _ T35 (mkF m 40 #[.val (.ref o1), .val (.ref s1), .val (.int 0)] [(.int 2), (.ref o1)])
  obtain ⟨T40, h40, X40, e40, W40, st40⟩ := putF X35 hx hZ hown (host := "") (Or.inl (oW hw 124 rfl)) Via.refl e35 D30 E30 (Or.inl (oW hw 125 rfl)) (oW hw 85 rfl) (ty := .int) (by decide) rfl rfl (g := (mkF m 40 #[.val (.ref o1), .val (.ref s1), .val (.int 0)] [(.int 2), (.ref o1)])) rfl rfl (hb hby dap02_40)
  refine oS st40 ?_
  have N40 := Fr.snoc X40 N30 go
  have E40_o := E30.wr W40
  have F40_value := F30.other W40 (Or.inr (slot_ne (Or.inl (oW hw 99 rfl)) (Or.inl (oW hw 125 rfl)) (by decide) (t := (.array .byte)) (t' := .int) (by decide) (by decide)))
  have F40_coder := C30.other W40 (Or.inr (slot_ne (Or.inl (oW hw 101 rfl)) (Or.inl (oW hw 125 rfl)) (by decide) (t := .byte) (t' := .int) (by decide) (by decide)))
  have F40_count := D30.same W40
  show oG p e below _ T40 (mkF m 43 #[.val (.ref o1), .val (.ref s1), .val (.int 0)] [])
  have B40 := B30.other W40 hob.symm
  refine oS (fun t k => XS.aloadN X40.here hx rfl (hb hby dap02_43) rfl rfl k) ?_
  show oG p e below _ T40 (mkF m 44 #[.val (.ref o1), .val (.ref s1), .val (.int 0)] [(.ref o1)])
  refine own_retA X40 hx hlk hret rfl rfl (hb hby dap02_44) ?_ (by decide) (by decide)
  rw [e40]
  exact ⟨rfl, N40, ((Keep.refl h0 [o1, b1]).trans K30 (allS (Or.inl (List.mem_of_getElem? (i := 1) rfl)) all0)).wr W40 (Or.inl (List.mem_of_getElem? (i := 0) rfl)), E40_o, F40_value, F40_coder, F40_count, B40⟩
theorem efsa20 (m : MethodId) (x0 : Addr) (x1 : Addr) : entryFrame m #[(.ref x0), (.ref x1)] 2 = mkF m 0 #[.val (.ref x0), .val (.ref x1)] [] := by first | (simp [entryFrame, mkF, argsToLocals, Value.category]; done) | rfl
set_option maxRecDepth 65536 in
set_option maxHeartbeats 40000000 in
theorem rm_sa20 (l : Launch) (Z : State) (a0 : Array Value) (hw : ∀ d ∈ tables_1, d.before a0 Z = true) (ws : List Jvm.Cond) (o1 : Addr) (b1 : Addr) (s1 : Addr) (t1 : Addr) (kt : ClassId) (kb : ClassId) (CS : Int32) (d0 : Value) (d1 : Value) (d2 : Value) (d3 : Value) (d4 : Value) (d5 : Value) (d6 : Value) (d7 : Value) (d8 : Value) (d9 : Value) (d10 : Value) (d11 : Value) (d12 : Value) (d13 : Value) (d14 : Value) (d15 : Value) (h0 : Heap) (n0 : Nat) (Z0 : n0 ≤ h0.size) (Es : Exa Z h0 s1 "java/lang/String") (Vs : Fld Z h0 s1 "java/lang/String" "value" "[B" (.ref t1)) (Cs : Fld Z h0 s1 "java/lang/String" "coder" "B" (.int 0)) (At : Arv Z h0 t1 kt .byte (0 : Int32) [] (.int 0)) (E1 : Exa Z h0 o1 "java/lang/StringBuilder") (F1 : Fld Z h0 o1 "java/lang/AbstractStringBuilder" "value" "[B" (.ref b1)) (C1 : Fld Z h0 o1 "java/lang/AbstractStringBuilder" "coder" "B" (.int 0)) (D1 : Fld Z h0 o1 "java/lang/AbstractStringBuilder" "count" "I" (.int 2)) (B1 : Arv Z h0 b1 kb .byte (16 : Int32) [d0, d1, d2, d3, d4, d5, d6, d7, d8, d9, d10, d11, d12, d13, d14, d15] (.int 0)) (go : n0 ≤ o1) (gb : n0 ≤ b1) (hob : o1 ≠ b1) (hp : ∀ c ∈ ([] : List Int32), ¬ c < 0 ∧ ¬ (255 : Int32) < c) (SC : Sta Z h0 "java/lang/String" "COMPACT_STRINGS" "Z" (.int CS)) (hCS : ¬ CS = 0) :
    own_Met l Z ws (⟨"java/lang/StringBuilder", "append", "(Ljava/lang/String;)Ljava/lang/StringBuilder;"⟩ : MethodName) jdk_67_method_7_code 2 (some (.object "java/lang/StringBuilder")) ({ frames := 4, cells := 0, slots := 0, locals := 80 } : Room) #[(.ref o1), (.ref s1)] h0 (fun v h L => v = some (.ref o1) ∧ Fr n0 L ∧ Keep h0 h [o1, b1] ∧ Exa Z h o1 "java/lang/StringBuilder" ∧ Fld Z h o1 "java/lang/AbstractStringBuilder" "value" "[B" (.ref b1) ∧ Fld Z h o1 "java/lang/AbstractStringBuilder" "coder" "B" (.int 0) ∧ Fld Z h o1 "java/lang/AbstractStringBuilder" "count" "I" (.int 2) ∧ Arv Z h b1 kb .byte (16 : Int32) [d0, d1, d2, d3, d4, d5, d6, d7, d8, d9, d10, d11, d12, d13, d14, d15] (.int 0)) := by
  refine own_body (plainFor_of_name pn_5) ?_
  intro p e s m below meth c s₁ hx hby hml hret hlk hown hnm hZ X0 e0
  have hml : c.maxLocals = 2 := hml
  have hown : s.vm.findClass "java/lang/StringBuilder" = some m.cls := hown
  have N0 := Fr.nil n0
  refine own_cast (efsa20 m o1 s1) ?_
  show oG p e below _ s₁ (mkF m 0 #[.val (.ref o1), .val (.ref s1)] [])
  refine oS (fun t k => XS.aloadN X0.here hx rfl (hb hby dsa02_0) rfl rfl k) ?_
  refine oS (fun t k => XS.aloadN X0.here hx rfl (hb hby dsa02_1) rfl rfl k) ?_
  show oG p e below _ s₁ (mkF m 2 #[.val (.ref o1), .val (.ref s1)] [(.ref s1), (.ref o1)])
  refine own_callUp X0 hx hZ (y := (⟨"java/lang/AbstractStringBuilder", "append", "(Ljava/lang/String;)Ljava/lang/AbstractStringBuilder;"⟩ : MethodName)) (W := 0) (kc := 0) (ks := 0) hown (oW hw 108 rfl) (own_same (oW hw 129 rfl) rfl (oW hw 109 rfl) (by decide)) (oW hw 109 rfl) (oW hw 110 rfl) (by decide) (oW hw 112 rfl) (own_back (W := 0) (rm_ap20 l Z a0 hw [] o1 b1 s1 t1 kt kb CS  d0 d1 d2 d3 d4 d5 d6 d7 d8 d9 d10 d11 d12 d13 d14 d15 h0 n0 Z0 Es Vs Cs At E1 F1 C1 D1 B1 go gb hob hp SC hCS) hZ (oW hw 112 rfl) (oW hw 94 rfl) (by decide) (by decide)) (b := o1) E1 (g := (mkF m 2 #[.val (.ref o1), .val (.ref s1)] [(.ref s1), (.ref o1)])) rfl (by rw [hml]; rfl) (argsL := [(.ref s1)]) (rest := []) (lenOf pd_12 rfl) rfl (by show 2 * 0 + _ ≤ _; exact Nat.le_of_eq rfl) (hb hby dsa02_2) rfl e0 (by decide) (by decide) (fun v2 T2 L2 X2 hQ2 => ?_)
  obtain ⟨rfl, M2, q1, q2, q3, q4, q5, q6⟩ := hQ2
  show oG p e below _ T2 (mkF m 5 #[.val (.ref o1), .val (.ref s1)] [(.ref o1)])
  refine oS (fun t k => XS.pop X2.here hx rfl (hb hby dsa02_5) rfl rfl k) ?_
  show oG p e below _ T2 (mkF m 6 #[.val (.ref o1), .val (.ref s1)] [])
  refine oS (fun t k => XS.aloadN X2.here hx rfl (hb hby dsa02_6) rfl rfl k) ?_
  show oG p e below _ T2 (mkF m 7 #[.val (.ref o1), .val (.ref s1)] [(.ref o1)])
  refine own_retA X2 hx hlk hret rfl rfl (hb hby dsa02_7) ?_ (by decide) (by decide)
  exact ⟨rfl, Fr.app N0 M2, q1, q2, q3, q4, q5, q6⟩
theorem efgb21 (m : MethodId) (x0 : Addr) (x1 : Addr) (x2 : Int32) (x3 : Int32) : entryFrame m #[(.ref x0), (.ref x1), (.int x2), (.int x3)] 4 = mkF m 0 #[.val (.ref x0), .val (.ref x1), .val (.int x2), .val (.int x3)] [] := by first | (simp [entryFrame, mkF, argsToLocals, Value.category]; done) | rfl
set_option maxRecDepth 65536 in
set_option maxHeartbeats 40000000 in
theorem rm_gb21 (l : Launch) (Z : State) (a0 : Array Value) (hw : ∀ d ∈ tables_1, d.before a0 Z = true) (ws : List Jvm.Cond) (s1 : Addr) (b1 : Addr) (t1 : Addr) (kt : ClassId) (kb : ClassId) (CS : Int32) (c0 : Int32) (d0 : Value) (d1 : Value) (d2 : Value) (d3 : Value) (d4 : Value) (d5 : Value) (d6 : Value) (d7 : Value) (d8 : Value) (d9 : Value) (d10 : Value) (d11 : Value) (d12 : Value) (d13 : Value) (d14 : Value) (d15 : Value) (h0 : Heap) (n0 : Nat) (Z0 : n0 ≤ h0.size) (Es : Exa Z h0 s1 "java/lang/String") (Vs : Fld Z h0 s1 "java/lang/String" "value" "[B" (.ref t1)) (Cs : Fld Z h0 s1 "java/lang/String" "coder" "B" (.int 0)) (At : Arv Z h0 t1 kt .byte (1 : Int32) [(.int (c0.toInt8.toInt32))] (.int 0)) (B1 : Arv Z h0 b1 kb .byte (16 : Int32) [d0, d1, d2, d3, d4, d5, d6, d7, d8, d9, d10, d11, d12, d13, d14, d15] (.int 0)) (gb : n0 ≤ b1) (SC : Sta Z h0 "java/lang/String" "COMPACT_STRINGS" "Z" (.int CS)) (hCS : ¬ CS = 0) :
    own_Met l Z ws (⟨"java/lang/String", "getBytes", "([BIB)V"⟩ : MethodName) jdk_42_method_147_code 4 none ({ frames := 1, cells := 0, slots := 0, locals := 20 } : Room) #[(.ref s1), (.ref b1), (.int 2), (.int 0)] h0 (fun v h L => v = none ∧ Fr n0 L ∧ Keep h0 h [b1] ∧ Arv Z h b1 kb .byte (16 : Int32) [d0, d1, (.int (c0.toInt8.toInt32)), d3, d4, d5, d6, d7, d8, d9, d10, d11, d12, d13, d14, d15] (.int 0)) := by
  refine own_body (plainFor_of_name pn_2) ?_
  intro p e s m below meth c s₁ hx hby hml hret hlk hown hnm hZ X0 e0
  have hml : c.maxLocals = 4 := hml
  have hown : s.vm.findClass "java/lang/String" = some m.cls := hown
  have N0 := Fr.nil n0
  refine own_cast (efgb21 m s1 b1 (2 : Int32) (0 : Int32)) ?_
  show oG p e below _ s₁ (mkF m 0 #[.val (.ref s1), .val (.ref b1), .val (.int 2), .val (.int 0)] [])
  refine oS (fun t k => XS.aloadN X0.here hx rfl (hb hby dgb02_0) rfl rfl k) ?_
  show oG p e below _ s₁ (mkF m 1 #[.val (.ref s1), .val (.ref b1), .val (.int 2), .val (.int 0)] [(.ref s1)])
  refine own_callV X0 hx hZ (y := (⟨"java/lang/String", "coder", "()B"⟩ : MethodName)) (W := 0) (kc := 0) (ks := 0) hown (oW hw 118 rfl) (oW hw 119 rfl) (oW hw 121 rfl) (oW hw 120 rfl) (own_back (W := 0) (rm_co l Z a0 hw [] s1 CS h0 n0 Z0 Cs SC hCS) hZ (oW hw 122 rfl) (oW hw 6 rfl) (by decide) (by decide)) (by decide) (b := s1) Es (g := (mkF m 1 #[.val (.ref s1), .val (.ref b1), .val (.int 2), .val (.int 0)] [(.ref s1)])) rfl (by rw [hml]; rfl) (argsL := []) (rest := []) (lenOf pd_7 rfl) rfl (by show 2 * 0 + _ ≤ _; exact Nat.le_of_eq rfl) (hb hby dgb02_1) rfl e0 (by decide) (by decide) (fun v1 T1 L1 X1 hQ1 => ?_)
  obtain ⟨rfl, M1, e1⟩ := hQ1
  have N1 := Fr.app N0 M1
  show oG p e below _ T1 (mkF m 4 #[.val (.ref s1), .val (.ref b1), .val (.int 2), .val (.int 0)] [(.int 0)])
  refine oS (fun t k => XS.iloadN X1.here hx rfl (hb hby dgb02_4) rfl  k) ?_
  show oG p e below _ T1 (mkF m 5 #[.val (.ref s1), .val (.ref b1), .val (.int 2), .val (.int 0)] [(.int 0), (.int 0)])
  refine oS (fun t k => XS.icmpNo X1.here hx rfl (hb hby dgb02_5) rfl (teq (rfl : (0 : Int32) = 0)).2 k) ?_
  show oG p e below _ T1 (mkF m 8 #[.val (.ref s1), .val (.ref b1), .val (.int 2), .val (.int 0)] [])
  refine oS (fun t k => XS.aloadN X1.here hx rfl (hb hby dgb02_8) rfl rfl k) ?_
  show oG p e below _ T1 (mkF m 9 #[.val (.ref s1), .val (.ref b1), .val (.int 2), .val (.int 0)] [(.ref s1)])
  obtain ⟨T9, X9, e9, st9⟩ := getF X1 hx hZ hown (host := "") (Or.inl (oW hw 24 rfl)) Via.refl e1 Vs (g := (mkF m 9 #[.val (.ref s1), .val (.ref b1), .val (.int 2), .val (.int 0)] [(.ref s1)])) rfl rfl (hb hby dgb02_9)
  refine oS st9 ?_
  show oG p e below _ T9 (mkF m 12 #[.val (.ref s1), .val (.ref b1), .val (.int 2), .val (.int 0)] [(.ref t1)])
  refine oS (fun t k => XS.iconst X9.here hx rfl (hb hby dgb02_12) k) ?_
  refine oS (fun t k => XS.aloadN X9.here hx rfl (hb hby dgb02_13) rfl rfl k) ?_
  refine oS (fun t k => XS.iloadN X9.here hx rfl (hb hby dgb02_14) rfl  k) ?_
  refine oS (fun t k => XS.iloadN X9.here hx rfl (hb hby dgb02_15) rfl  k) ?_
  refine oS (fun t k => XS.ishl X9.here hx rfl (hb hby dgb02_16) rfl k) ?_
  show oG p e below _ T9 (mkF m 17 #[.val (.ref s1), .val (.ref b1), .val (.int 2), .val (.int 0)] [(.int ((2 : Int32) <<< ((0 : Int32) &&& 31))), (.ref b1), (.int 0), (.ref t1)])
  rw [(by decide : ((2 : Int32) <<< ((0 : Int32) &&& 31)) = (2 : Int32))]
  show oG p e below _ T9 (mkF m 17 #[.val (.ref s1), .val (.ref b1), .val (.int 2), .val (.int 0)] [(.int 2), (.ref b1), (.int 0), (.ref t1)])
  refine oS (fun t k => XS.aloadN X9.here hx rfl (hb hby dgb02_17) rfl rfl k) ?_
  show oG p e below _ T9 (mkF m 18 #[.val (.ref s1), .val (.ref b1), .val (.int 2), .val (.int 0)] [(.ref s1), (.int 2), (.ref b1), (.int 0), (.ref t1)])
  obtain ⟨T18, X18, e18, st18⟩ := getF X9 hx hZ hown (host := "") (Or.inl (oW hw 24 rfl)) Via.refl e9 Vs (g := (mkF m 18 #[.val (.ref s1), .val (.ref b1), .val (.int 2), .val (.int 0)] [(.ref s1), (.int 2), (.ref b1), (.int 0), (.ref t1)])) rfl rfl (hb hby dgb02_18)
  refine oS st18 ?_
  show oG p e below _ T18 (mkF m 21 #[.val (.ref s1), .val (.ref b1), .val (.int 2), .val (.int 0)] [(.ref t1), (.int 2), (.ref b1), (.int 0), (.ref t1)])
  obtain ⟨cl21, Ar21, -, S21, M21, -, -⟩ := id At
  refine oS (X18.arraylength hx (by rw [e18]; exact Ar21.1) (State.isArrayOf_alike hZ.alike Ar21.2.1) (g := (mkF m 21 #[.val (.ref s1), .val (.ref b1), .val (.int 2), .val (.int 0)] [(.ref t1), (.int 2), (.ref b1), (.int 0), (.ref t1)])) rfl rfl (hb hby dgb02_21)) ?_
  rw [len_of S21 M21]
  show oG p e below _ T18 (mkF m 22 #[.val (.ref s1), .val (.ref b1), .val (.int 2), .val (.int 0)] [(.int 1), (.int 2), (.ref b1), (.int 0), (.ref t1)])
  obtain ⟨T22, h22, L22, X22, e22, N22, K22c, B22c, st22⟩ := cpA X18 hx hZ hown (oW hw 147 rfl) (oW hw 150 rfl) (oW hw 148 rfl) (oW hw 149 rfl) e18 At B1 (Or.inl ⟨rfl, rfl⟩) (by decide) (by decide) (by decide) (by decide) (by decide) rfl (Nat.le_of_ble_eq_true rfl) N1 gb (g := (mkF m 22 #[.val (.ref s1), .val (.ref b1), .val (.int 2), .val (.int 0)] [(.int 1), (.int 2), (.ref b1), (.int 0), (.ref t1)])) rfl (by rw [hml]; rfl) rfl (hb hby dgb02_22) (by decide) (W := 0) (by show 2 * 0 + _ ≤ _; exact Nat.le_of_eq rfl) (by decide)
  refine oS st22 ?_
  show oG p e below _ T22 (mkF m 25 #[.val (.ref s1), .val (.ref b1), .val (.int 2), .val (.int 0)] [])
  refine oS (fun t k => XS.goto X22.here hx rfl (pc0 := 25) (pc' := 43) rfl (hb hby dgb02_25) (by decide) (by decide) k) ?_
  show oG p e below _ T22 (mkF m 43 #[.val (.ref s1), .val (.ref b1), .val (.int 2), .val (.int 0)] [])
  refine own_retV X22 hx hlk hret (hb hby dgb02_43) ?_ (by decide) (by decide)
  rw [e22]
  exact ⟨rfl, N22, K22c, B22c⟩
theorem efps21 (m : MethodId) (x0 : Addr) (x1 : Int32) (x2 : Addr) : entryFrame m #[(.ref x0), (.int x1), (.ref x2)] 3 = mkF m 0 #[.val (.ref x0), .val (.int x1), .val (.ref x2)] [] := by first | (simp [entryFrame, mkF, argsToLocals, Value.category]; done) | rfl
set_option maxRecDepth 65536 in
set_option maxHeartbeats 40000000 in
theorem rm_ps21 (l : Launch) (Z : State) (a0 : Array Value) (hw : ∀ d ∈ tables_1, d.before a0 Z = true) (ws : List Jvm.Cond) (o1 : Addr) (b1 : Addr) (s1 : Addr) (t1 : Addr) (kt : ClassId) (kb : ClassId) (CS : Int32) (c0 : Int32) (d0 : Value) (d1 : Value) (d2 : Value) (d3 : Value) (d4 : Value) (d5 : Value) (d6 : Value) (d7 : Value) (d8 : Value) (d9 : Value) (d10 : Value) (d11 : Value) (d12 : Value) (d13 : Value) (d14 : Value) (d15 : Value) (h0 : Heap) (n0 : Nat) (Z0 : n0 ≤ h0.size) (Es : Exa Z h0 s1 "java/lang/String") (Vs : Fld Z h0 s1 "java/lang/String" "value" "[B" (.ref t1)) (Cs : Fld Z h0 s1 "java/lang/String" "coder" "B" (.int 0)) (At : Arv Z h0 t1 kt .byte (1 : Int32) [(.int (c0.toInt8.toInt32))] (.int 0)) (E1 : Exa Z h0 o1 "java/lang/StringBuilder") (F1 : Fld Z h0 o1 "java/lang/AbstractStringBuilder" "value" "[B" (.ref b1)) (C1 : Fld Z h0 o1 "java/lang/AbstractStringBuilder" "coder" "B" (.int 0)) (B1 : Arv Z h0 b1 kb .byte (16 : Int32) [d0, d1, d2, d3, d4, d5, d6, d7, d8, d9, d10, d11, d12, d13, d14, d15] (.int 0)) (gb : n0 ≤ b1) (SC : Sta Z h0 "java/lang/String" "COMPACT_STRINGS" "Z" (.int CS)) (hCS : ¬ CS = 0) :
    own_Met l Z ws (⟨"java/lang/AbstractStringBuilder", "putStringAt", "(ILjava/lang/String;)V"⟩ : MethodName) jdk_68_method_73_code 3 none ({ frames := 2, cells := 0, slots := 0, locals := 40 } : Room) #[(.ref o1), (.int 2), (.ref s1)] h0 (fun v h L => v = none ∧ Fr n0 L ∧ Keep h0 h [b1] ∧ Arv Z h b1 kb .byte (16 : Int32) [d0, d1, (.int (c0.toInt8.toInt32)), d3, d4, d5, d6, d7, d8, d9, d10, d11, d12, d13, d14, d15] (.int 0)) := by
  refine own_body (plainFor_of_name pn_4) ?_
  intro p e s m below meth c s₁ hx hby hml hret hlk hown hnm hZ X0 e0
  have hml : c.maxLocals = 3 := hml
  have hown : s.vm.findClass "java/lang/AbstractStringBuilder" = some m.cls := hown
  have N0 := Fr.nil n0
  refine own_cast (efps21 m o1 (2 : Int32) s1) ?_
  show oG p e below _ s₁ (mkF m 0 #[.val (.ref o1), .val (.int 2), .val (.ref s1)] [])
  refine oS (fun t k => XS.aloadN X0.here hx rfl (hb hby dps02_0) rfl rfl k) ?_
  refine oS (fun t k => XS.aloadN X0.here hx rfl (hb hby dps02_1) rfl rfl k) ?_
  show oG p e below _ s₁ (mkF m 2 #[.val (.ref o1), .val (.int 2), .val (.ref s1)] [(.ref s1), (.ref o1)])
  refine own_callVC X0 hx hZ (y := (⟨"java/lang/AbstractStringBuilder", "inflateIfNeededFor", "(Ljava/lang/String;)V"⟩ : MethodName)) (z := (⟨"java/lang/AbstractStringBuilder", "inflateIfNeededFor", "(Ljava/lang/String;)V"⟩ : MethodName)) (W := 0) (kc := 0) (ks := 0) hown (oW hw 136 rfl) (own_decl (oW hw 137 rfl) (oW hw 140 rfl)) (own_nf (oW hw 129 rfl) rfl hZ) (oW hw 139 rfl) (oW hw 137 rfl) (own_back (W := 0) (rm_if l Z a0 hw [] o1 s1 CS h0 n0 Z0 C1 Es Cs SC hCS) hZ (oW hw 140 rfl) (oW hw 94 rfl) (by decide) (by decide)) (by decide) (b := o1) E1 (g := (mkF m 2 #[.val (.ref o1), .val (.int 2), .val (.ref s1)] [(.ref s1), (.ref o1)])) rfl (by rw [hml]; rfl) (argsL := [(.ref s1)]) (rest := []) (lenOf pd_9 rfl) rfl (by show 2 * 0 + _ ≤ _; exact Nat.le_of_eq rfl) (hb hby dps02_2) rfl e0 (by decide) (by decide) (fun v2 T2 L2 X2 hQ2 => ?_)
  obtain ⟨rfl, M2, e2⟩ := hQ2
  show oG p e below _ T2 (mkF m 5 #[.val (.ref o1), .val (.int 2), .val (.ref s1)] [])
  refine oS (fun t k => XS.aloadN X2.here hx rfl (hb hby dps02_5) rfl rfl k) ?_
  refine oS (fun t k => XS.aloadN X2.here hx rfl (hb hby dps02_6) rfl rfl k) ?_
  show oG p e below _ T2 (mkF m 7 #[.val (.ref o1), .val (.int 2), .val (.ref s1)] [(.ref o1), (.ref s1)])
  obtain ⟨T7, X7, e7, st7⟩ := getF X2 hx hZ hown (host := "") (Or.inl (oW hw 98 rfl)) Via.refl e2 F1 (g := (mkF m 7 #[.val (.ref o1), .val (.int 2), .val (.ref s1)] [(.ref o1), (.ref s1)])) rfl rfl (hb hby dps02_7)
  refine oS st7 ?_
  show oG p e below _ T7 (mkF m 10 #[.val (.ref o1), .val (.int 2), .val (.ref s1)] [(.ref b1), (.ref s1)])
  refine oS (fun t k => XS.iloadN X7.here hx rfl (hb hby dps02_10) rfl  k) ?_
  refine oS (fun t k => XS.aloadN X7.here hx rfl (hb hby dps02_11) rfl rfl k) ?_
  show oG p e below _ T7 (mkF m 12 #[.val (.ref o1), .val (.int 2), .val (.ref s1)] [(.ref o1), (.int 2), (.ref b1), (.ref s1)])
  obtain ⟨T12, X12, e12, st12⟩ := getF X7 hx hZ hown (host := "") (Or.inl (oW hw 100 rfl)) Via.refl e7 C1 (g := (mkF m 12 #[.val (.ref o1), .val (.int 2), .val (.ref s1)] [(.ref o1), (.int 2), (.ref b1), (.ref s1)])) rfl rfl (hb hby dps02_12)
  refine oS st12 ?_
  show oG p e below _ T12 (mkF m 15 #[.val (.ref o1), .val (.int 2), .val (.ref s1)] [(.int 0), (.int 2), (.ref b1), (.ref s1)])
  refine own_callV X12 hx hZ (y := (⟨"java/lang/String", "getBytes", "([BIB)V"⟩ : MethodName)) (W := 0) (kc := 0) (ks := 0) hown (oW hw 142 rfl) (oW hw 143 rfl) (oW hw 145 rfl) (oW hw 144 rfl) (own_back (W := 0) (rm_gb21 l Z a0 hw [] s1 b1 t1 kt kb CS c0 d0 d1 d2 d3 d4 d5 d6 d7 d8 d9 d10 d11 d12 d13 d14 d15 h0 n0 Z0 Es Vs Cs At B1 gb SC hCS) hZ (oW hw 146 rfl) (oW hw 6 rfl) (by decide) (by decide)) (by decide) (b := s1) Es (g := (mkF m 15 #[.val (.ref o1), .val (.int 2), .val (.ref s1)] [(.int 0), (.int 2), (.ref b1), (.ref s1)])) rfl (by rw [hml]; rfl) (argsL := [(.ref b1), (.int 2), (.int 0)]) (rest := []) (lenOf pd_10 rfl) rfl (by show 2 * 0 + _ ≤ _; exact Nat.le_of_eq rfl) (hb hby dps02_15) rfl e12 (by decide) (by decide) (fun v15 T15 L15 X15 hQ15 => ?_)
  obtain ⟨rfl, M15, K15, B15⟩ := hQ15
  show oG p e below _ T15 (mkF m 18 #[.val (.ref o1), .val (.int 2), .val (.ref s1)] [])
  refine own_retV X15 hx hlk hret (hb hby dps02_18) ?_ (by decide) (by decide)
  exact ⟨rfl, Fr.app (Fr.app N0 M2) M15, K15, B15⟩
theorem efap21 (m : MethodId) (x0 : Addr) (x1 : Addr) : entryFrame m #[(.ref x0), (.ref x1)] 3 = mkF m 0 #[.val (.ref x0), .val (.ref x1), .unset] [] := by first | (simp [entryFrame, mkF, argsToLocals, Value.category]; done) | rfl
set_option maxRecDepth 65536 in
set_option maxHeartbeats 40000000 in
theorem rm_ap21 (l : Launch) (Z : State) (a0 : Array Value) (hw : ∀ d ∈ tables_1, d.before a0 Z = true) (ws : List Jvm.Cond) (o1 : Addr) (b1 : Addr) (s1 : Addr) (t1 : Addr) (kt : ClassId) (kb : ClassId) (CS : Int32) (c0 : Int32) (d0 : Value) (d1 : Value) (d2 : Value) (d3 : Value) (d4 : Value) (d5 : Value) (d6 : Value) (d7 : Value) (d8 : Value) (d9 : Value) (d10 : Value) (d11 : Value) (d12 : Value) (d13 : Value) (d14 : Value) (d15 : Value) (h0 : Heap) (n0 : Nat) (Z0 : n0 ≤ h0.size) (Es : Exa Z h0 s1 "java/lang/String") (Vs : Fld Z h0 s1 "java/lang/String" "value" "[B" (.ref t1)) (Cs : Fld Z h0 s1 "java/lang/String" "coder" "B" (.int 0)) (At : Arv Z h0 t1 kt .byte (1 : Int32) [(.int (c0.toInt8.toInt32))] (.int 0)) (E1 : Exa Z h0 o1 "java/lang/StringBuilder") (F1 : Fld Z h0 o1 "java/lang/AbstractStringBuilder" "value" "[B" (.ref b1)) (C1 : Fld Z h0 o1 "java/lang/AbstractStringBuilder" "coder" "B" (.int 0)) (D1 : Fld Z h0 o1 "java/lang/AbstractStringBuilder" "count" "I" (.int 2)) (B1 : Arv Z h0 b1 kb .byte (16 : Int32) [d0, d1, d2, d3, d4, d5, d6, d7, d8, d9, d10, d11, d12, d13, d14, d15] (.int 0)) (go : n0 ≤ o1) (gb : n0 ≤ b1) (hob : o1 ≠ b1) (hp : ∀ c ∈ ([c0] : List Int32), ¬ c < 0 ∧ ¬ (255 : Int32) < c) (SC : Sta Z h0 "java/lang/String" "COMPACT_STRINGS" "Z" (.int CS)) (hCS : ¬ CS = 0) :
    own_Met l Z ws (⟨"java/lang/AbstractStringBuilder", "append", "(Ljava/lang/String;)Ljava/lang/AbstractStringBuilder;"⟩ : MethodName) jdk_68_method_22_code 3 (some (.object "java/lang/AbstractStringBuilder")) ({ frames := 3, cells := 0, slots := 0, locals := 60 } : Room) #[(.ref o1), (.ref s1)] h0 (fun v h L => v = some (.ref o1) ∧ Fr n0 L ∧ Keep h0 h [o1, b1] ∧ Exa Z h o1 "java/lang/StringBuilder" ∧ Fld Z h o1 "java/lang/AbstractStringBuilder" "value" "[B" (.ref b1) ∧ Fld Z h o1 "java/lang/AbstractStringBuilder" "coder" "B" (.int 0) ∧ Fld Z h o1 "java/lang/AbstractStringBuilder" "count" "I" (.int 3) ∧ Arv Z h b1 kb .byte (16 : Int32) [d0, d1, (.int (c0.toInt8.toInt32)), d3, d4, d5, d6, d7, d8, d9, d10, d11, d12, d13, d14, d15] (.int 0)) := by
  refine own_body (plainFor_of_name pn_4) ?_
  intro p e s m below meth c s₁ hx hby hml hret hlk hown hnm hZ X0 e0
  have hml : c.maxLocals = 3 := hml
  have hown : s.vm.findClass "java/lang/AbstractStringBuilder" = some m.cls := hown
  have N0 := Fr.nil n0
  have hln : ∀ d ∈ StrChars.Road.wordsLen, d.before a0 Z = true := fun d hd => hw d ((by decide +kernel : ∀ d ∈ StrChars.Road.wordsLen, d ∈ tables_1) d hd)
  have hcd : StrChars.Road.CodA ([c0] : List Int32) 0 (1 : Int32) [(.int (c0.toInt8.toInt32))] := StrChars.Road.codOf (n := 1) rfl (fun x hx => (hp x hx).2)
  refine own_cast (efap21 m o1 s1) ?_
  show oG p e below _ s₁ (mkF m 0 #[.val (.ref o1), .val (.ref s1), .unset] [])
  refine oS (fun t k => XS.aloadN X0.here hx rfl (hb hby dap02_0) rfl rfl k) ?_
  show oG p e below _ s₁ (mkF m 1 #[.val (.ref o1), .val (.ref s1), .unset] [(.ref s1)])
  refine oS (fun t k => XS.ifnonnullYes X0.here hx rfl (pc0 := 1) (pc' := 9) rfl (hb hby dap02_1) rfl (by decide) (by decide) k) ?_
  show oG p e below _ s₁ (mkF m 9 #[.val (.ref o1), .val (.ref s1), .unset] [])
  refine oS (fun t k => XS.aloadN X0.here hx rfl (hb hby dap02_9) rfl rfl k) ?_
  show oG p e below _ s₁ (mkF m 10 #[.val (.ref o1), .val (.ref s1), .unset] [(.ref s1)])
  refine own_callV X0 hx hZ (y := (⟨"java/lang/String", "length", "()I"⟩ : MethodName)) (W := 0) (Q := (fun v h L => v = some (.int (Int32.ofNat ([c0] : List Int32).length)) ∧ L = [] ∧ h = h0)) (kc := 0) (ks := 0) hown (oW hw 113 rfl) (oW hw 114 rfl) (oW hw 116 rfl) (oW hw 115 rfl) (StrChars.Road.lenW (W := 0) hZ hln (kI := 4) (oW hw 5 rfl) Es Vs Cs At hcd (own_up hp) SC hCS (Nat.le_of_ble_eq_true rfl) (by decide) (by decide)) (by decide) (b := s1) Es (g := (mkF m 10 #[.val (.ref o1), .val (.ref s1), .unset] [(.ref s1)])) rfl (by rw [hml]; rfl) (argsL := []) (rest := []) (lenOf pd_8 rfl) rfl (by show 2 * 0 + _ ≤ _; exact Nat.le_of_eq rfl) (hb hby dap02_10) rfl e0 (by decide) (by decide) (fun v10 T10 L10 X10 hQ10 => ?_)
  obtain ⟨rfl, rfl, e10⟩ := hQ10
  show oG p e below _ T10 (mkF m 13 #[.val (.ref o1), .val (.ref s1), .unset] [(.int 1)])
  refine oS (fun t k => XS.istoreN X10.here hx rfl (hb hby dap02_13) rfl (l' := #[.val (.ref o1), .val (.ref s1), .val (.int 1)]) rfl k) ?_
  show oG p e below _ T10 (mkF m 14 #[.val (.ref o1), .val (.ref s1), .val (.int 1)] [])
  refine oS (fun t k => XS.aloadN X10.here hx rfl (hb hby dap02_14) rfl rfl k) ?_
  refine oS (fun t k => XS.aloadN X10.here hx rfl (hb hby dap02_15) rfl rfl k) ?_
  show oG p e below _ T10 (mkF m 16 #[.val (.ref o1), .val (.ref s1), .val (.int 1)] [(.ref o1), (.ref o1)])
  obtain ⟨T16, X16, e16, st16⟩ := getF X10 hx hZ hown (host := "") (Or.inl (oW hw 124 rfl)) Via.refl e10 D1 (g := (mkF m 16 #[.val (.ref o1), .val (.ref s1), .val (.int 1)] [(.ref o1), (.ref o1)])) rfl rfl (hb hby dap02_16)
  refine oS st16 ?_
  show oG p e below _ T16 (mkF m 19 #[.val (.ref o1), .val (.ref s1), .val (.int 1)] [(.int 2), (.ref o1)])
  refine oS (fun t k => XS.iloadN X16.here hx rfl (hb hby dap02_19) rfl  k) ?_
  refine oS (fun t k => XS.iadd X16.here hx rfl (hb hby dap02_20) rfl k) ?_
  show oG p e below _ T16 (mkF m 21 #[.val (.ref o1), .val (.ref s1), .val (.int 1)] [(.int ((2 : Int32) + (1 : Int32))), (.ref o1)])
  rw [(by decide : ((2 : Int32) + (1 : Int32)) = (3 : Int32))]
  show oG p e below _ T16 (mkF m 21 #[.val (.ref o1), .val (.ref s1), .val (.int 1)] [(.int 3), (.ref o1)])
  refine own_callVC X16 hx hZ (y := (⟨"java/lang/AbstractStringBuilder", "ensureCapacityInternal", "(I)V"⟩ : MethodName)) (z := (⟨"java/lang/AbstractStringBuilder", "ensureCapacityInternal", "(I)V"⟩ : MethodName)) (W := 0) (kc := 0) (ks := 0) hown (oW hw 126 rfl) (own_decl (oW hw 127 rfl) (oW hw 130 rfl)) (own_nf (oW hw 129 rfl) rfl hZ) (oW hw 129 rfl) (oW hw 127 rfl) (own_back (W := 0) (rm_en3 l Z a0 hw [] o1 b1 kb _ h0 n0 Z0 F1 C1 B1) hZ (oW hw 130 rfl) (oW hw 94 rfl) (by decide) (by decide)) (by decide) (b := o1) E1 (g := (mkF m 21 #[.val (.ref o1), .val (.ref s1), .val (.int 1)] [(.int 3), (.ref o1)])) rfl (by rw [hml]; rfl) (argsL := [(.int 3)]) (rest := []) (lenOf pd_6 rfl) rfl (by show 2 * 0 + _ ≤ _; exact Nat.le_of_eq rfl) (hb hby dap02_21) rfl e16 (by decide) (by decide) (fun v21 T21 L21 X21 hQ21 => ?_)
  obtain ⟨rfl, M21, e21⟩ := hQ21
  show oG p e below _ T21 (mkF m 24 #[.val (.ref o1), .val (.ref s1), .val (.int 1)] [])
  refine oS (fun t k => XS.aloadN X21.here hx rfl (hb hby dap02_24) rfl rfl k) ?_
  refine oS (fun t k => XS.aloadN X21.here hx rfl (hb hby dap02_25) rfl rfl k) ?_
  show oG p e below _ T21 (mkF m 26 #[.val (.ref o1), .val (.ref s1), .val (.int 1)] [(.ref o1), (.ref o1)])
  obtain ⟨T26, X26, e26, st26⟩ := getF X21 hx hZ hown (host := "") (Or.inl (oW hw 124 rfl)) Via.refl e21 D1 (g := (mkF m 26 #[.val (.ref o1), .val (.ref s1), .val (.int 1)] [(.ref o1), (.ref o1)])) rfl rfl (hb hby dap02_26)
  refine oS st26 ?_
  show oG p e below _ T26 (mkF m 29 #[.val (.ref o1), .val (.ref s1), .val (.int 1)] [(.int 2), (.ref o1)])
  refine oS (fun t k => XS.aloadN X26.here hx rfl (hb hby dap02_29) rfl rfl k) ?_
  show oG p e below _ T26 (mkF m 30 #[.val (.ref o1), .val (.ref s1), .val (.int 1)] [(.ref s1), (.int 2), (.ref o1)])
  refine own_callVC X26 hx hZ (y := (⟨"java/lang/AbstractStringBuilder", "putStringAt", "(ILjava/lang/String;)V"⟩ : MethodName)) (z := (⟨"java/lang/AbstractStringBuilder", "putStringAt", "(ILjava/lang/String;)V"⟩ : MethodName)) (W := 0) (kc := 0) (ks := 0) hown (oW hw 131 rfl) (own_decl (oW hw 132 rfl) (oW hw 135 rfl)) (own_nf (oW hw 129 rfl) rfl hZ) (oW hw 134 rfl) (oW hw 132 rfl) (own_back (W := 0) (rm_ps21 l Z a0 hw [] o1 b1 s1 t1 kt kb CS c0 d0 d1 d2 d3 d4 d5 d6 d7 d8 d9 d10 d11 d12 d13 d14 d15 h0 n0 Z0 Es Vs Cs At E1 F1 C1 B1 gb SC hCS) hZ (oW hw 135 rfl) (oW hw 94 rfl) (by decide) (by decide)) (by decide) (b := o1) E1 (g := (mkF m 30 #[.val (.ref o1), .val (.ref s1), .val (.int 1)] [(.ref s1), (.int 2), (.ref o1)])) rfl (by rw [hml]; rfl) (argsL := [(.int 2), (.ref s1)]) (rest := []) (lenOf pd_11 rfl) rfl (by show 2 * 0 + _ ≤ _; exact Nat.le_of_eq rfl) (hb hby dap02_30) rfl e26 (by decide) (by decide) (fun v30 T30 L30 X30 hQ30 => ?_)
  obtain ⟨rfl, M30, K30, B30⟩ := hQ30
  have N30 := Fr.app (Fr.app (Fr.app N0 (Fr.nil n0)) M21) M30
  have E30 := E1.keep K30
  have F30 := F1.keep K30 (ninS hob nin0)
  have C30 := C1.keep K30 (ninS hob nin0)
  have D30 := D1.keep K30 (ninS hob nin0)
  show oG p e below _ T30 (mkF m 33 #[.val (.ref o1), .val (.ref s1), .val (.int 1)] [])
  refine oS (fun t k => XS.aloadN X30.here hx rfl (hb hby dap02_33) rfl rfl k) ?_
  refine oS (fun t k => XS.dup X30.here hx rfl (hb hby dap02_34) rfl rfl k) ?_
  show oG p e below _ T30 (mkF m 35 #[.val (.ref o1), .val (.ref s1), .val (.int 1)] [(.ref o1), (.ref o1)])
  obtain ⟨T35, X35, e35, st35⟩ := getF X30 hx hZ hown (host := "") (Or.inl (oW hw 124 rfl)) Via.refl rfl D30 (g := (mkF m 35 #[.val (.ref o1), .val (.ref s1), .val (.int 1)] [(.ref o1), (.ref o1)])) rfl rfl (hb hby dap02_35)
  refine oS st35 ?_
  show oG p e below _ T35 (mkF m 38 #[.val (.ref o1), .val (.ref s1), .val (.int 1)] [(.int 2), (.ref o1)])
  refine oS (fun t k => XS.iloadN X35.here hx rfl (hb hby dap02_38) rfl  k) ?_
  refine oS (fun t k => XS.iadd X35.here hx rfl (hb hby dap02_39) rfl k) ?_
  show oG p e below _ T35 (mkF m 40 #[.val (.ref o1), .val (.ref s1), .val (.int 1)] [(.int ((2 : Int32) + (1 : Int32))), (.ref o1)])
  rw [(by decide : ((2 : Int32) + (1 : Int32)) = (3 : Int32))]
  show oG p e below _ T35 (mkF m 40 #[.val (.ref o1), .val (.ref s1), .val (.int 1)] [(.int 3), (.ref o1)])
  obtain ⟨T40, h40, X40, e40, W40, st40⟩ := putF X35 hx hZ hown (host := "") (Or.inl (oW hw 124 rfl)) Via.refl e35 D30 E30 (Or.inl (oW hw 125 rfl)) (oW hw 85 rfl) (ty := .int) (by decide) rfl rfl (g := (mkF m 40 #[.val (.ref o1), .val (.ref s1), .val (.int 1)] [(.int 3), (.ref o1)])) rfl rfl (hb hby dap02_40)
  refine oS st40 ?_
  have N40 := Fr.snoc X40 N30 go
  have E40_o := E30.wr W40
  have F40_value := F30.other W40 (Or.inr (slot_ne (Or.inl (oW hw 99 rfl)) (Or.inl (oW hw 125 rfl)) (by decide) (t := (.array .byte)) (t' := .int) (by decide) (by decide)))
  have F40_coder := C30.other W40 (Or.inr (slot_ne (Or.inl (oW hw 101 rfl)) (Or.inl (oW hw 125 rfl)) (by decide) (t := .byte) (t' := .int) (by decide) (by decide)))
  have F40_count := D30.same W40
  show oG p e below _ T40 (mkF m 43 #[.val (.ref o1), .val (.ref s1), .val (.int 1)] [])
  have B40 := B30.other W40 hob.symm
  refine oS (fun t k => XS.aloadN X40.here hx rfl (hb hby dap02_43) rfl rfl k) ?_
  show oG p e below _ T40 (mkF m 44 #[.val (.ref o1), .val (.ref s1), .val (.int 1)] [(.ref o1)])
  refine own_retA X40 hx hlk hret rfl rfl (hb hby dap02_44) ?_ (by decide) (by decide)
  rw [e40]
  exact ⟨rfl, N40, ((Keep.refl h0 [o1, b1]).trans K30 (allS (Or.inl (List.mem_of_getElem? (i := 1) rfl)) all0)).wr W40 (Or.inl (List.mem_of_getElem? (i := 0) rfl)), E40_o, F40_value, F40_coder, F40_count, B40⟩
theorem efsa21 (m : MethodId) (x0 : Addr) (x1 : Addr) : entryFrame m #[(.ref x0), (.ref x1)] 2 = mkF m 0 #[.val (.ref x0), .val (.ref x1)] [] := by first | (simp [entryFrame, mkF, argsToLocals, Value.category]; done) | rfl
set_option maxRecDepth 65536 in
set_option maxHeartbeats 40000000 in
theorem rm_sa21 (l : Launch) (Z : State) (a0 : Array Value) (hw : ∀ d ∈ tables_1, d.before a0 Z = true) (ws : List Jvm.Cond) (o1 : Addr) (b1 : Addr) (s1 : Addr) (t1 : Addr) (kt : ClassId) (kb : ClassId) (CS : Int32) (c0 : Int32) (d0 : Value) (d1 : Value) (d2 : Value) (d3 : Value) (d4 : Value) (d5 : Value) (d6 : Value) (d7 : Value) (d8 : Value) (d9 : Value) (d10 : Value) (d11 : Value) (d12 : Value) (d13 : Value) (d14 : Value) (d15 : Value) (h0 : Heap) (n0 : Nat) (Z0 : n0 ≤ h0.size) (Es : Exa Z h0 s1 "java/lang/String") (Vs : Fld Z h0 s1 "java/lang/String" "value" "[B" (.ref t1)) (Cs : Fld Z h0 s1 "java/lang/String" "coder" "B" (.int 0)) (At : Arv Z h0 t1 kt .byte (1 : Int32) [(.int (c0.toInt8.toInt32))] (.int 0)) (E1 : Exa Z h0 o1 "java/lang/StringBuilder") (F1 : Fld Z h0 o1 "java/lang/AbstractStringBuilder" "value" "[B" (.ref b1)) (C1 : Fld Z h0 o1 "java/lang/AbstractStringBuilder" "coder" "B" (.int 0)) (D1 : Fld Z h0 o1 "java/lang/AbstractStringBuilder" "count" "I" (.int 2)) (B1 : Arv Z h0 b1 kb .byte (16 : Int32) [d0, d1, d2, d3, d4, d5, d6, d7, d8, d9, d10, d11, d12, d13, d14, d15] (.int 0)) (go : n0 ≤ o1) (gb : n0 ≤ b1) (hob : o1 ≠ b1) (hp : ∀ c ∈ ([c0] : List Int32), ¬ c < 0 ∧ ¬ (255 : Int32) < c) (SC : Sta Z h0 "java/lang/String" "COMPACT_STRINGS" "Z" (.int CS)) (hCS : ¬ CS = 0) :
    own_Met l Z ws (⟨"java/lang/StringBuilder", "append", "(Ljava/lang/String;)Ljava/lang/StringBuilder;"⟩ : MethodName) jdk_67_method_7_code 2 (some (.object "java/lang/StringBuilder")) ({ frames := 4, cells := 0, slots := 0, locals := 80 } : Room) #[(.ref o1), (.ref s1)] h0 (fun v h L => v = some (.ref o1) ∧ Fr n0 L ∧ Keep h0 h [o1, b1] ∧ Exa Z h o1 "java/lang/StringBuilder" ∧ Fld Z h o1 "java/lang/AbstractStringBuilder" "value" "[B" (.ref b1) ∧ Fld Z h o1 "java/lang/AbstractStringBuilder" "coder" "B" (.int 0) ∧ Fld Z h o1 "java/lang/AbstractStringBuilder" "count" "I" (.int 3) ∧ Arv Z h b1 kb .byte (16 : Int32) [d0, d1, (.int (c0.toInt8.toInt32)), d3, d4, d5, d6, d7, d8, d9, d10, d11, d12, d13, d14, d15] (.int 0)) := by
  refine own_body (plainFor_of_name pn_5) ?_
  intro p e s m below meth c s₁ hx hby hml hret hlk hown hnm hZ X0 e0
  have hml : c.maxLocals = 2 := hml
  have hown : s.vm.findClass "java/lang/StringBuilder" = some m.cls := hown
  have N0 := Fr.nil n0
  refine own_cast (efsa21 m o1 s1) ?_
  show oG p e below _ s₁ (mkF m 0 #[.val (.ref o1), .val (.ref s1)] [])
  refine oS (fun t k => XS.aloadN X0.here hx rfl (hb hby dsa02_0) rfl rfl k) ?_
  refine oS (fun t k => XS.aloadN X0.here hx rfl (hb hby dsa02_1) rfl rfl k) ?_
  show oG p e below _ s₁ (mkF m 2 #[.val (.ref o1), .val (.ref s1)] [(.ref s1), (.ref o1)])
  refine own_callUp X0 hx hZ (y := (⟨"java/lang/AbstractStringBuilder", "append", "(Ljava/lang/String;)Ljava/lang/AbstractStringBuilder;"⟩ : MethodName)) (W := 0) (kc := 0) (ks := 0) hown (oW hw 108 rfl) (own_same (oW hw 129 rfl) rfl (oW hw 109 rfl) (by decide)) (oW hw 109 rfl) (oW hw 110 rfl) (by decide) (oW hw 112 rfl) (own_back (W := 0) (rm_ap21 l Z a0 hw [] o1 b1 s1 t1 kt kb CS c0 d0 d1 d2 d3 d4 d5 d6 d7 d8 d9 d10 d11 d12 d13 d14 d15 h0 n0 Z0 Es Vs Cs At E1 F1 C1 D1 B1 go gb hob hp SC hCS) hZ (oW hw 112 rfl) (oW hw 94 rfl) (by decide) (by decide)) (b := o1) E1 (g := (mkF m 2 #[.val (.ref o1), .val (.ref s1)] [(.ref s1), (.ref o1)])) rfl (by rw [hml]; rfl) (argsL := [(.ref s1)]) (rest := []) (lenOf pd_12 rfl) rfl (by show 2 * 0 + _ ≤ _; exact Nat.le_of_eq rfl) (hb hby dsa02_2) rfl e0 (by decide) (by decide) (fun v2 T2 L2 X2 hQ2 => ?_)
  obtain ⟨rfl, M2, q1, q2, q3, q4, q5, q6⟩ := hQ2
  show oG p e below _ T2 (mkF m 5 #[.val (.ref o1), .val (.ref s1)] [(.ref o1)])
  refine oS (fun t k => XS.pop X2.here hx rfl (hb hby dsa02_5) rfl rfl k) ?_
  show oG p e below _ T2 (mkF m 6 #[.val (.ref o1), .val (.ref s1)] [])
  refine oS (fun t k => XS.aloadN X2.here hx rfl (hb hby dsa02_6) rfl rfl k) ?_
  show oG p e below _ T2 (mkF m 7 #[.val (.ref o1), .val (.ref s1)] [(.ref o1)])
  refine own_retA X2 hx hlk hret rfl rfl (hb hby dsa02_7) ?_ (by decide) (by decide)
  exact ⟨rfl, Fr.app N0 M2, q1, q2, q3, q4, q5, q6⟩
theorem efgb22 (m : MethodId) (x0 : Addr) (x1 : Addr) (x2 : Int32) (x3 : Int32) : entryFrame m #[(.ref x0), (.ref x1), (.int x2), (.int x3)] 4 = mkF m 0 #[.val (.ref x0), .val (.ref x1), .val (.int x2), .val (.int x3)] [] := by first | (simp [entryFrame, mkF, argsToLocals, Value.category]; done) | rfl
set_option maxRecDepth 65536 in
set_option maxHeartbeats 40000000 in
theorem rm_gb22 (l : Launch) (Z : State) (a0 : Array Value) (hw : ∀ d ∈ tables_1, d.before a0 Z = true) (ws : List Jvm.Cond) (s1 : Addr) (b1 : Addr) (t1 : Addr) (kt : ClassId) (kb : ClassId) (CS : Int32) (c0 : Int32) (c1 : Int32) (d0 : Value) (d1 : Value) (d2 : Value) (d3 : Value) (d4 : Value) (d5 : Value) (d6 : Value) (d7 : Value) (d8 : Value) (d9 : Value) (d10 : Value) (d11 : Value) (d12 : Value) (d13 : Value) (d14 : Value) (d15 : Value) (h0 : Heap) (n0 : Nat) (Z0 : n0 ≤ h0.size) (Es : Exa Z h0 s1 "java/lang/String") (Vs : Fld Z h0 s1 "java/lang/String" "value" "[B" (.ref t1)) (Cs : Fld Z h0 s1 "java/lang/String" "coder" "B" (.int 0)) (At : Arv Z h0 t1 kt .byte (2 : Int32) [(.int (c0.toInt8.toInt32)), (.int (c1.toInt8.toInt32))] (.int 0)) (B1 : Arv Z h0 b1 kb .byte (16 : Int32) [d0, d1, d2, d3, d4, d5, d6, d7, d8, d9, d10, d11, d12, d13, d14, d15] (.int 0)) (gb : n0 ≤ b1) (SC : Sta Z h0 "java/lang/String" "COMPACT_STRINGS" "Z" (.int CS)) (hCS : ¬ CS = 0) :
    own_Met l Z ws (⟨"java/lang/String", "getBytes", "([BIB)V"⟩ : MethodName) jdk_42_method_147_code 4 none ({ frames := 1, cells := 0, slots := 0, locals := 20 } : Room) #[(.ref s1), (.ref b1), (.int 2), (.int 0)] h0 (fun v h L => v = none ∧ Fr n0 L ∧ Keep h0 h [b1] ∧ Arv Z h b1 kb .byte (16 : Int32) [d0, d1, (.int (c0.toInt8.toInt32)), (.int (c1.toInt8.toInt32)), d4, d5, d6, d7, d8, d9, d10, d11, d12, d13, d14, d15] (.int 0)) := by
  refine own_body (plainFor_of_name pn_2) ?_
  intro p e s m below meth c s₁ hx hby hml hret hlk hown hnm hZ X0 e0
  have hml : c.maxLocals = 4 := hml
  have hown : s.vm.findClass "java/lang/String" = some m.cls := hown
  have N0 := Fr.nil n0
  refine own_cast (efgb22 m s1 b1 (2 : Int32) (0 : Int32)) ?_
  show oG p e below _ s₁ (mkF m 0 #[.val (.ref s1), .val (.ref b1), .val (.int 2), .val (.int 0)] [])
  refine oS (fun t k => XS.aloadN X0.here hx rfl (hb hby dgb02_0) rfl rfl k) ?_
  show oG p e below _ s₁ (mkF m 1 #[.val (.ref s1), .val (.ref b1), .val (.int 2), .val (.int 0)] [(.ref s1)])
  refine own_callV X0 hx hZ (y := (⟨"java/lang/String", "coder", "()B"⟩ : MethodName)) (W := 0) (kc := 0) (ks := 0) hown (oW hw 118 rfl) (oW hw 119 rfl) (oW hw 121 rfl) (oW hw 120 rfl) (own_back (W := 0) (rm_co l Z a0 hw [] s1 CS h0 n0 Z0 Cs SC hCS) hZ (oW hw 122 rfl) (oW hw 6 rfl) (by decide) (by decide)) (by decide) (b := s1) Es (g := (mkF m 1 #[.val (.ref s1), .val (.ref b1), .val (.int 2), .val (.int 0)] [(.ref s1)])) rfl (by rw [hml]; rfl) (argsL := []) (rest := []) (lenOf pd_7 rfl) rfl (by show 2 * 0 + _ ≤ _; exact Nat.le_of_eq rfl) (hb hby dgb02_1) rfl e0 (by decide) (by decide) (fun v1 T1 L1 X1 hQ1 => ?_)
  obtain ⟨rfl, M1, e1⟩ := hQ1
  have N1 := Fr.app N0 M1
  show oG p e below _ T1 (mkF m 4 #[.val (.ref s1), .val (.ref b1), .val (.int 2), .val (.int 0)] [(.int 0)])
  refine oS (fun t k => XS.iloadN X1.here hx rfl (hb hby dgb02_4) rfl  k) ?_
  show oG p e below _ T1 (mkF m 5 #[.val (.ref s1), .val (.ref b1), .val (.int 2), .val (.int 0)] [(.int 0), (.int 0)])
  refine oS (fun t k => XS.icmpNo X1.here hx rfl (hb hby dgb02_5) rfl (teq (rfl : (0 : Int32) = 0)).2 k) ?_
  show oG p e below _ T1 (mkF m 8 #[.val (.ref s1), .val (.ref b1), .val (.int 2), .val (.int 0)] [])
  refine oS (fun t k => XS.aloadN X1.here hx rfl (hb hby dgb02_8) rfl rfl k) ?_
  show oG p e below _ T1 (mkF m 9 #[.val (.ref s1), .val (.ref b1), .val (.int 2), .val (.int 0)] [(.ref s1)])
  obtain ⟨T9, X9, e9, st9⟩ := getF X1 hx hZ hown (host := "") (Or.inl (oW hw 24 rfl)) Via.refl e1 Vs (g := (mkF m 9 #[.val (.ref s1), .val (.ref b1), .val (.int 2), .val (.int 0)] [(.ref s1)])) rfl rfl (hb hby dgb02_9)
  refine oS st9 ?_
  show oG p e below _ T9 (mkF m 12 #[.val (.ref s1), .val (.ref b1), .val (.int 2), .val (.int 0)] [(.ref t1)])
  refine oS (fun t k => XS.iconst X9.here hx rfl (hb hby dgb02_12) k) ?_
  refine oS (fun t k => XS.aloadN X9.here hx rfl (hb hby dgb02_13) rfl rfl k) ?_
  refine oS (fun t k => XS.iloadN X9.here hx rfl (hb hby dgb02_14) rfl  k) ?_
  refine oS (fun t k => XS.iloadN X9.here hx rfl (hb hby dgb02_15) rfl  k) ?_
  refine oS (fun t k => XS.ishl X9.here hx rfl (hb hby dgb02_16) rfl k) ?_
  show oG p e below _ T9 (mkF m 17 #[.val (.ref s1), .val (.ref b1), .val (.int 2), .val (.int 0)] [(.int ((2 : Int32) <<< ((0 : Int32) &&& 31))), (.ref b1), (.int 0), (.ref t1)])
  rw [(by decide : ((2 : Int32) <<< ((0 : Int32) &&& 31)) = (2 : Int32))]
  show oG p e below _ T9 (mkF m 17 #[.val (.ref s1), .val (.ref b1), .val (.int 2), .val (.int 0)] [(.int 2), (.ref b1), (.int 0), (.ref t1)])
  refine oS (fun t k => XS.aloadN X9.here hx rfl (hb hby dgb02_17) rfl rfl k) ?_
  show oG p e below _ T9 (mkF m 18 #[.val (.ref s1), .val (.ref b1), .val (.int 2), .val (.int 0)] [(.ref s1), (.int 2), (.ref b1), (.int 0), (.ref t1)])
  obtain ⟨T18, X18, e18, st18⟩ := getF X9 hx hZ hown (host := "") (Or.inl (oW hw 24 rfl)) Via.refl e9 Vs (g := (mkF m 18 #[.val (.ref s1), .val (.ref b1), .val (.int 2), .val (.int 0)] [(.ref s1), (.int 2), (.ref b1), (.int 0), (.ref t1)])) rfl rfl (hb hby dgb02_18)
  refine oS st18 ?_
  show oG p e below _ T18 (mkF m 21 #[.val (.ref s1), .val (.ref b1), .val (.int 2), .val (.int 0)] [(.ref t1), (.int 2), (.ref b1), (.int 0), (.ref t1)])
  obtain ⟨cl21, Ar21, -, S21, M21, -, -⟩ := id At
  refine oS (X18.arraylength hx (by rw [e18]; exact Ar21.1) (State.isArrayOf_alike hZ.alike Ar21.2.1) (g := (mkF m 21 #[.val (.ref s1), .val (.ref b1), .val (.int 2), .val (.int 0)] [(.ref t1), (.int 2), (.ref b1), (.int 0), (.ref t1)])) rfl rfl (hb hby dgb02_21)) ?_
  rw [len_of S21 M21]
  show oG p e below _ T18 (mkF m 22 #[.val (.ref s1), .val (.ref b1), .val (.int 2), .val (.int 0)] [(.int 2), (.int 2), (.ref b1), (.int 0), (.ref t1)])
  obtain ⟨T22, h22, L22, X22, e22, N22, K22c, B22c, st22⟩ := cpA X18 hx hZ hown (oW hw 147 rfl) (oW hw 150 rfl) (oW hw 148 rfl) (oW hw 149 rfl) e18 At B1 (Or.inl ⟨rfl, rfl⟩) (by decide) (by decide) (by decide) (by decide) (by decide) rfl (Nat.le_of_ble_eq_true rfl) N1 gb (g := (mkF m 22 #[.val (.ref s1), .val (.ref b1), .val (.int 2), .val (.int 0)] [(.int 2), (.int 2), (.ref b1), (.int 0), (.ref t1)])) rfl (by rw [hml]; rfl) rfl (hb hby dgb02_22) (by decide) (W := 0) (by show 2 * 0 + _ ≤ _; exact Nat.le_of_eq rfl) (by decide)
  refine oS st22 ?_
  show oG p e below _ T22 (mkF m 25 #[.val (.ref s1), .val (.ref b1), .val (.int 2), .val (.int 0)] [])
  refine oS (fun t k => XS.goto X22.here hx rfl (pc0 := 25) (pc' := 43) rfl (hb hby dgb02_25) (by decide) (by decide) k) ?_
  show oG p e below _ T22 (mkF m 43 #[.val (.ref s1), .val (.ref b1), .val (.int 2), .val (.int 0)] [])
  refine own_retV X22 hx hlk hret (hb hby dgb02_43) ?_ (by decide) (by decide)
  rw [e22]
  exact ⟨rfl, N22, K22c, B22c⟩
theorem efps22 (m : MethodId) (x0 : Addr) (x1 : Int32) (x2 : Addr) : entryFrame m #[(.ref x0), (.int x1), (.ref x2)] 3 = mkF m 0 #[.val (.ref x0), .val (.int x1), .val (.ref x2)] [] := by first | (simp [entryFrame, mkF, argsToLocals, Value.category]; done) | rfl
set_option maxRecDepth 65536 in
set_option maxHeartbeats 40000000 in
theorem rm_ps22 (l : Launch) (Z : State) (a0 : Array Value) (hw : ∀ d ∈ tables_1, d.before a0 Z = true) (ws : List Jvm.Cond) (o1 : Addr) (b1 : Addr) (s1 : Addr) (t1 : Addr) (kt : ClassId) (kb : ClassId) (CS : Int32) (c0 : Int32) (c1 : Int32) (d0 : Value) (d1 : Value) (d2 : Value) (d3 : Value) (d4 : Value) (d5 : Value) (d6 : Value) (d7 : Value) (d8 : Value) (d9 : Value) (d10 : Value) (d11 : Value) (d12 : Value) (d13 : Value) (d14 : Value) (d15 : Value) (h0 : Heap) (n0 : Nat) (Z0 : n0 ≤ h0.size) (Es : Exa Z h0 s1 "java/lang/String") (Vs : Fld Z h0 s1 "java/lang/String" "value" "[B" (.ref t1)) (Cs : Fld Z h0 s1 "java/lang/String" "coder" "B" (.int 0)) (At : Arv Z h0 t1 kt .byte (2 : Int32) [(.int (c0.toInt8.toInt32)), (.int (c1.toInt8.toInt32))] (.int 0)) (E1 : Exa Z h0 o1 "java/lang/StringBuilder") (F1 : Fld Z h0 o1 "java/lang/AbstractStringBuilder" "value" "[B" (.ref b1)) (C1 : Fld Z h0 o1 "java/lang/AbstractStringBuilder" "coder" "B" (.int 0)) (B1 : Arv Z h0 b1 kb .byte (16 : Int32) [d0, d1, d2, d3, d4, d5, d6, d7, d8, d9, d10, d11, d12, d13, d14, d15] (.int 0)) (gb : n0 ≤ b1) (SC : Sta Z h0 "java/lang/String" "COMPACT_STRINGS" "Z" (.int CS)) (hCS : ¬ CS = 0) :
    own_Met l Z ws (⟨"java/lang/AbstractStringBuilder", "putStringAt", "(ILjava/lang/String;)V"⟩ : MethodName) jdk_68_method_73_code 3 none ({ frames := 2, cells := 0, slots := 0, locals := 40 } : Room) #[(.ref o1), (.int 2), (.ref s1)] h0 (fun v h L => v = none ∧ Fr n0 L ∧ Keep h0 h [b1] ∧ Arv Z h b1 kb .byte (16 : Int32) [d0, d1, (.int (c0.toInt8.toInt32)), (.int (c1.toInt8.toInt32)), d4, d5, d6, d7, d8, d9, d10, d11, d12, d13, d14, d15] (.int 0)) := by
  refine own_body (plainFor_of_name pn_4) ?_
  intro p e s m below meth c s₁ hx hby hml hret hlk hown hnm hZ X0 e0
  have hml : c.maxLocals = 3 := hml
  have hown : s.vm.findClass "java/lang/AbstractStringBuilder" = some m.cls := hown
  have N0 := Fr.nil n0
  refine own_cast (efps22 m o1 (2 : Int32) s1) ?_
  show oG p e below _ s₁ (mkF m 0 #[.val (.ref o1), .val (.int 2), .val (.ref s1)] [])
  refine oS (fun t k => XS.aloadN X0.here hx rfl (hb hby dps02_0) rfl rfl k) ?_
  refine oS (fun t k => XS.aloadN X0.here hx rfl (hb hby dps02_1) rfl rfl k) ?_
  show oG p e below _ s₁ (mkF m 2 #[.val (.ref o1), .val (.int 2), .val (.ref s1)] [(.ref s1), (.ref o1)])
  refine own_callVC X0 hx hZ (y := (⟨"java/lang/AbstractStringBuilder", "inflateIfNeededFor", "(Ljava/lang/String;)V"⟩ : MethodName)) (z := (⟨"java/lang/AbstractStringBuilder", "inflateIfNeededFor", "(Ljava/lang/String;)V"⟩ : MethodName)) (W := 0) (kc := 0) (ks := 0) hown (oW hw 136 rfl) (own_decl (oW hw 137 rfl) (oW hw 140 rfl)) (own_nf (oW hw 129 rfl) rfl hZ) (oW hw 139 rfl) (oW hw 137 rfl) (own_back (W := 0) (rm_if l Z a0 hw [] o1 s1 CS h0 n0 Z0 C1 Es Cs SC hCS) hZ (oW hw 140 rfl) (oW hw 94 rfl) (by decide) (by decide)) (by decide) (b := o1) E1 (g := (mkF m 2 #[.val (.ref o1), .val (.int 2), .val (.ref s1)] [(.ref s1), (.ref o1)])) rfl (by rw [hml]; rfl) (argsL := [(.ref s1)]) (rest := []) (lenOf pd_9 rfl) rfl (by show 2 * 0 + _ ≤ _; exact Nat.le_of_eq rfl) (hb hby dps02_2) rfl e0 (by decide) (by decide) (fun v2 T2 L2 X2 hQ2 => ?_)
  obtain ⟨rfl, M2, e2⟩ := hQ2
  show oG p e below _ T2 (mkF m 5 #[.val (.ref o1), .val (.int 2), .val (.ref s1)] [])
  refine oS (fun t k => XS.aloadN X2.here hx rfl (hb hby dps02_5) rfl rfl k) ?_
  refine oS (fun t k => XS.aloadN X2.here hx rfl (hb hby dps02_6) rfl rfl k) ?_
  show oG p e below _ T2 (mkF m 7 #[.val (.ref o1), .val (.int 2), .val (.ref s1)] [(.ref o1), (.ref s1)])
  obtain ⟨T7, X7, e7, st7⟩ := getF X2 hx hZ hown (host := "") (Or.inl (oW hw 98 rfl)) Via.refl e2 F1 (g := (mkF m 7 #[.val (.ref o1), .val (.int 2), .val (.ref s1)] [(.ref o1), (.ref s1)])) rfl rfl (hb hby dps02_7)
  refine oS st7 ?_
  show oG p e below _ T7 (mkF m 10 #[.val (.ref o1), .val (.int 2), .val (.ref s1)] [(.ref b1), (.ref s1)])
  refine oS (fun t k => XS.iloadN X7.here hx rfl (hb hby dps02_10) rfl  k) ?_
  refine oS (fun t k => XS.aloadN X7.here hx rfl (hb hby dps02_11) rfl rfl k) ?_
  show oG p e below _ T7 (mkF m 12 #[.val (.ref o1), .val (.int 2), .val (.ref s1)] [(.ref o1), (.int 2), (.ref b1), (.ref s1)])
  obtain ⟨T12, X12, e12, st12⟩ := getF X7 hx hZ hown (host := "") (Or.inl (oW hw 100 rfl)) Via.refl e7 C1 (g := (mkF m 12 #[.val (.ref o1), .val (.int 2), .val (.ref s1)] [(.ref o1), (.int 2), (.ref b1), (.ref s1)])) rfl rfl (hb hby dps02_12)
  refine oS st12 ?_
  show oG p e below _ T12 (mkF m 15 #[.val (.ref o1), .val (.int 2), .val (.ref s1)] [(.int 0), (.int 2), (.ref b1), (.ref s1)])
  refine own_callV X12 hx hZ (y := (⟨"java/lang/String", "getBytes", "([BIB)V"⟩ : MethodName)) (W := 0) (kc := 0) (ks := 0) hown (oW hw 142 rfl) (oW hw 143 rfl) (oW hw 145 rfl) (oW hw 144 rfl) (own_back (W := 0) (rm_gb22 l Z a0 hw [] s1 b1 t1 kt kb CS c0 c1 d0 d1 d2 d3 d4 d5 d6 d7 d8 d9 d10 d11 d12 d13 d14 d15 h0 n0 Z0 Es Vs Cs At B1 gb SC hCS) hZ (oW hw 146 rfl) (oW hw 6 rfl) (by decide) (by decide)) (by decide) (b := s1) Es (g := (mkF m 15 #[.val (.ref o1), .val (.int 2), .val (.ref s1)] [(.int 0), (.int 2), (.ref b1), (.ref s1)])) rfl (by rw [hml]; rfl) (argsL := [(.ref b1), (.int 2), (.int 0)]) (rest := []) (lenOf pd_10 rfl) rfl (by show 2 * 0 + _ ≤ _; exact Nat.le_of_eq rfl) (hb hby dps02_15) rfl e12 (by decide) (by decide) (fun v15 T15 L15 X15 hQ15 => ?_)
  obtain ⟨rfl, M15, K15, B15⟩ := hQ15
  show oG p e below _ T15 (mkF m 18 #[.val (.ref o1), .val (.int 2), .val (.ref s1)] [])
  refine own_retV X15 hx hlk hret (hb hby dps02_18) ?_ (by decide) (by decide)
  exact ⟨rfl, Fr.app (Fr.app N0 M2) M15, K15, B15⟩
theorem efap22 (m : MethodId) (x0 : Addr) (x1 : Addr) : entryFrame m #[(.ref x0), (.ref x1)] 3 = mkF m 0 #[.val (.ref x0), .val (.ref x1), .unset] [] := by first | (simp [entryFrame, mkF, argsToLocals, Value.category]; done) | rfl
set_option maxRecDepth 65536 in
set_option maxHeartbeats 40000000 in
theorem rm_ap22 (l : Launch) (Z : State) (a0 : Array Value) (hw : ∀ d ∈ tables_1, d.before a0 Z = true) (ws : List Jvm.Cond) (o1 : Addr) (b1 : Addr) (s1 : Addr) (t1 : Addr) (kt : ClassId) (kb : ClassId) (CS : Int32) (c0 : Int32) (c1 : Int32) (d0 : Value) (d1 : Value) (d2 : Value) (d3 : Value) (d4 : Value) (d5 : Value) (d6 : Value) (d7 : Value) (d8 : Value) (d9 : Value) (d10 : Value) (d11 : Value) (d12 : Value) (d13 : Value) (d14 : Value) (d15 : Value) (h0 : Heap) (n0 : Nat) (Z0 : n0 ≤ h0.size) (Es : Exa Z h0 s1 "java/lang/String") (Vs : Fld Z h0 s1 "java/lang/String" "value" "[B" (.ref t1)) (Cs : Fld Z h0 s1 "java/lang/String" "coder" "B" (.int 0)) (At : Arv Z h0 t1 kt .byte (2 : Int32) [(.int (c0.toInt8.toInt32)), (.int (c1.toInt8.toInt32))] (.int 0)) (E1 : Exa Z h0 o1 "java/lang/StringBuilder") (F1 : Fld Z h0 o1 "java/lang/AbstractStringBuilder" "value" "[B" (.ref b1)) (C1 : Fld Z h0 o1 "java/lang/AbstractStringBuilder" "coder" "B" (.int 0)) (D1 : Fld Z h0 o1 "java/lang/AbstractStringBuilder" "count" "I" (.int 2)) (B1 : Arv Z h0 b1 kb .byte (16 : Int32) [d0, d1, d2, d3, d4, d5, d6, d7, d8, d9, d10, d11, d12, d13, d14, d15] (.int 0)) (go : n0 ≤ o1) (gb : n0 ≤ b1) (hob : o1 ≠ b1) (hp : ∀ c ∈ ([c0, c1] : List Int32), ¬ c < 0 ∧ ¬ (255 : Int32) < c) (SC : Sta Z h0 "java/lang/String" "COMPACT_STRINGS" "Z" (.int CS)) (hCS : ¬ CS = 0) :
    own_Met l Z ws (⟨"java/lang/AbstractStringBuilder", "append", "(Ljava/lang/String;)Ljava/lang/AbstractStringBuilder;"⟩ : MethodName) jdk_68_method_22_code 3 (some (.object "java/lang/AbstractStringBuilder")) ({ frames := 3, cells := 0, slots := 0, locals := 60 } : Room) #[(.ref o1), (.ref s1)] h0 (fun v h L => v = some (.ref o1) ∧ Fr n0 L ∧ Keep h0 h [o1, b1] ∧ Exa Z h o1 "java/lang/StringBuilder" ∧ Fld Z h o1 "java/lang/AbstractStringBuilder" "value" "[B" (.ref b1) ∧ Fld Z h o1 "java/lang/AbstractStringBuilder" "coder" "B" (.int 0) ∧ Fld Z h o1 "java/lang/AbstractStringBuilder" "count" "I" (.int 4) ∧ Arv Z h b1 kb .byte (16 : Int32) [d0, d1, (.int (c0.toInt8.toInt32)), (.int (c1.toInt8.toInt32)), d4, d5, d6, d7, d8, d9, d10, d11, d12, d13, d14, d15] (.int 0)) := by
  refine own_body (plainFor_of_name pn_4) ?_
  intro p e s m below meth c s₁ hx hby hml hret hlk hown hnm hZ X0 e0
  have hml : c.maxLocals = 3 := hml
  have hown : s.vm.findClass "java/lang/AbstractStringBuilder" = some m.cls := hown
  have N0 := Fr.nil n0
  have hln : ∀ d ∈ StrChars.Road.wordsLen, d.before a0 Z = true := fun d hd => hw d ((by decide +kernel : ∀ d ∈ StrChars.Road.wordsLen, d ∈ tables_1) d hd)
  have hcd : StrChars.Road.CodA ([c0, c1] : List Int32) 0 (2 : Int32) [(.int (c0.toInt8.toInt32)), (.int (c1.toInt8.toInt32))] := StrChars.Road.codOf (n := 2) rfl (fun x hx => (hp x hx).2)
  refine own_cast (efap22 m o1 s1) ?_
  show oG p e below _ s₁ (mkF m 0 #[.val (.ref o1), .val (.ref s1), .unset] [])
  refine oS (fun t k => XS.aloadN X0.here hx rfl (hb hby dap02_0) rfl rfl k) ?_
  show oG p e below _ s₁ (mkF m 1 #[.val (.ref o1), .val (.ref s1), .unset] [(.ref s1)])
  refine oS (fun t k => XS.ifnonnullYes X0.here hx rfl (pc0 := 1) (pc' := 9) rfl (hb hby dap02_1) rfl (by decide) (by decide) k) ?_
  show oG p e below _ s₁ (mkF m 9 #[.val (.ref o1), .val (.ref s1), .unset] [])
  refine oS (fun t k => XS.aloadN X0.here hx rfl (hb hby dap02_9) rfl rfl k) ?_
  show oG p e below _ s₁ (mkF m 10 #[.val (.ref o1), .val (.ref s1), .unset] [(.ref s1)])
  refine own_callV X0 hx hZ (y := (⟨"java/lang/String", "length", "()I"⟩ : MethodName)) (W := 0) (Q := (fun v h L => v = some (.int (Int32.ofNat ([c0, c1] : List Int32).length)) ∧ L = [] ∧ h = h0)) (kc := 0) (ks := 0) hown (oW hw 113 rfl) (oW hw 114 rfl) (oW hw 116 rfl) (oW hw 115 rfl) (StrChars.Road.lenW (W := 0) hZ hln (kI := 4) (oW hw 5 rfl) Es Vs Cs At hcd (own_up hp) SC hCS (Nat.le_of_ble_eq_true rfl) (by decide) (by decide)) (by decide) (b := s1) Es (g := (mkF m 10 #[.val (.ref o1), .val (.ref s1), .unset] [(.ref s1)])) rfl (by rw [hml]; rfl) (argsL := []) (rest := []) (lenOf pd_8 rfl) rfl (by show 2 * 0 + _ ≤ _; exact Nat.le_of_eq rfl) (hb hby dap02_10) rfl e0 (by decide) (by decide) (fun v10 T10 L10 X10 hQ10 => ?_)
  obtain ⟨rfl, rfl, e10⟩ := hQ10
  show oG p e below _ T10 (mkF m 13 #[.val (.ref o1), .val (.ref s1), .unset] [(.int 2)])
  refine oS (fun t k => XS.istoreN X10.here hx rfl (hb hby dap02_13) rfl (l' := #[.val (.ref o1), .val (.ref s1), .val (.int 2)]) rfl k) ?_
  show oG p e below _ T10 (mkF m 14 #[.val (.ref o1), .val (.ref s1), .val (.int 2)] [])
  refine oS (fun t k => XS.aloadN X10.here hx rfl (hb hby dap02_14) rfl rfl k) ?_
  refine oS (fun t k => XS.aloadN X10.here hx rfl (hb hby dap02_15) rfl rfl k) ?_
  show oG p e below _ T10 (mkF m 16 #[.val (.ref o1), .val (.ref s1), .val (.int 2)] [(.ref o1), (.ref o1)])
  obtain ⟨T16, X16, e16, st16⟩ := getF X10 hx hZ hown (host := "") (Or.inl (oW hw 124 rfl)) Via.refl e10 D1 (g := (mkF m 16 #[.val (.ref o1), .val (.ref s1), .val (.int 2)] [(.ref o1), (.ref o1)])) rfl rfl (hb hby dap02_16)
  refine oS st16 ?_
  show oG p e below _ T16 (mkF m 19 #[.val (.ref o1), .val (.ref s1), .val (.int 2)] [(.int 2), (.ref o1)])
  refine oS (fun t k => XS.iloadN X16.here hx rfl (hb hby dap02_19) rfl  k) ?_
  refine oS (fun t k => XS.iadd X16.here hx rfl (hb hby dap02_20) rfl k) ?_
  show oG p e below _ T16 (mkF m 21 #[.val (.ref o1), .val (.ref s1), .val (.int 2)] [(.int ((2 : Int32) + (2 : Int32))), (.ref o1)])
  rw [(by decide : ((2 : Int32) + (2 : Int32)) = (4 : Int32))]
  show oG p e below _ T16 (mkF m 21 #[.val (.ref o1), .val (.ref s1), .val (.int 2)] [(.int 4), (.ref o1)])
  refine own_callVC X16 hx hZ (y := (⟨"java/lang/AbstractStringBuilder", "ensureCapacityInternal", "(I)V"⟩ : MethodName)) (z := (⟨"java/lang/AbstractStringBuilder", "ensureCapacityInternal", "(I)V"⟩ : MethodName)) (W := 0) (kc := 0) (ks := 0) hown (oW hw 126 rfl) (own_decl (oW hw 127 rfl) (oW hw 130 rfl)) (own_nf (oW hw 129 rfl) rfl hZ) (oW hw 129 rfl) (oW hw 127 rfl) (own_back (W := 0) (rm_en4 l Z a0 hw [] o1 b1 kb _ h0 n0 Z0 F1 C1 B1) hZ (oW hw 130 rfl) (oW hw 94 rfl) (by decide) (by decide)) (by decide) (b := o1) E1 (g := (mkF m 21 #[.val (.ref o1), .val (.ref s1), .val (.int 2)] [(.int 4), (.ref o1)])) rfl (by rw [hml]; rfl) (argsL := [(.int 4)]) (rest := []) (lenOf pd_6 rfl) rfl (by show 2 * 0 + _ ≤ _; exact Nat.le_of_eq rfl) (hb hby dap02_21) rfl e16 (by decide) (by decide) (fun v21 T21 L21 X21 hQ21 => ?_)
  obtain ⟨rfl, M21, e21⟩ := hQ21
  show oG p e below _ T21 (mkF m 24 #[.val (.ref o1), .val (.ref s1), .val (.int 2)] [])
  refine oS (fun t k => XS.aloadN X21.here hx rfl (hb hby dap02_24) rfl rfl k) ?_
  refine oS (fun t k => XS.aloadN X21.here hx rfl (hb hby dap02_25) rfl rfl k) ?_
  show oG p e below _ T21 (mkF m 26 #[.val (.ref o1), .val (.ref s1), .val (.int 2)] [(.ref o1), (.ref o1)])
  obtain ⟨T26, X26, e26, st26⟩ := getF X21 hx hZ hown (host := "") (Or.inl (oW hw 124 rfl)) Via.refl e21 D1 (g := (mkF m 26 #[.val (.ref o1), .val (.ref s1), .val (.int 2)] [(.ref o1), (.ref o1)])) rfl rfl (hb hby dap02_26)
  refine oS st26 ?_
  show oG p e below _ T26 (mkF m 29 #[.val (.ref o1), .val (.ref s1), .val (.int 2)] [(.int 2), (.ref o1)])
  refine oS (fun t k => XS.aloadN X26.here hx rfl (hb hby dap02_29) rfl rfl k) ?_
  show oG p e below _ T26 (mkF m 30 #[.val (.ref o1), .val (.ref s1), .val (.int 2)] [(.ref s1), (.int 2), (.ref o1)])
  refine own_callVC X26 hx hZ (y := (⟨"java/lang/AbstractStringBuilder", "putStringAt", "(ILjava/lang/String;)V"⟩ : MethodName)) (z := (⟨"java/lang/AbstractStringBuilder", "putStringAt", "(ILjava/lang/String;)V"⟩ : MethodName)) (W := 0) (kc := 0) (ks := 0) hown (oW hw 131 rfl) (own_decl (oW hw 132 rfl) (oW hw 135 rfl)) (own_nf (oW hw 129 rfl) rfl hZ) (oW hw 134 rfl) (oW hw 132 rfl) (own_back (W := 0) (rm_ps22 l Z a0 hw [] o1 b1 s1 t1 kt kb CS c0 c1 d0 d1 d2 d3 d4 d5 d6 d7 d8 d9 d10 d11 d12 d13 d14 d15 h0 n0 Z0 Es Vs Cs At E1 F1 C1 B1 gb SC hCS) hZ (oW hw 135 rfl) (oW hw 94 rfl) (by decide) (by decide)) (by decide) (b := o1) E1 (g := (mkF m 30 #[.val (.ref o1), .val (.ref s1), .val (.int 2)] [(.ref s1), (.int 2), (.ref o1)])) rfl (by rw [hml]; rfl) (argsL := [(.int 2), (.ref s1)]) (rest := []) (lenOf pd_11 rfl) rfl (by show 2 * 0 + _ ≤ _; exact Nat.le_of_eq rfl) (hb hby dap02_30) rfl e26 (by decide) (by decide) (fun v30 T30 L30 X30 hQ30 => ?_)
  obtain ⟨rfl, M30, K30, B30⟩ := hQ30
  have N30 := Fr.app (Fr.app (Fr.app N0 (Fr.nil n0)) M21) M30
  have E30 := E1.keep K30
  have F30 := F1.keep K30 (ninS hob nin0)
  have C30 := C1.keep K30 (ninS hob nin0)
  have D30 := D1.keep K30 (ninS hob nin0)
  show oG p e below _ T30 (mkF m 33 #[.val (.ref o1), .val (.ref s1), .val (.int 2)] [])
  refine oS (fun t k => XS.aloadN X30.here hx rfl (hb hby dap02_33) rfl rfl k) ?_
  refine oS (fun t k => XS.dup X30.here hx rfl (hb hby dap02_34) rfl rfl k) ?_
  show oG p e below _ T30 (mkF m 35 #[.val (.ref o1), .val (.ref s1), .val (.int 2)] [(.ref o1), (.ref o1)])
  obtain ⟨T35, X35, e35, st35⟩ := getF X30 hx hZ hown (host := "") (Or.inl (oW hw 124 rfl)) Via.refl rfl D30 (g := (mkF m 35 #[.val (.ref o1), .val (.ref s1), .val (.int 2)] [(.ref o1), (.ref o1)])) rfl rfl (hb hby dap02_35)
  refine oS st35 ?_
  show oG p e below _ T35 (mkF m 38 #[.val (.ref o1), .val (.ref s1), .val (.int 2)] [(.int 2), (.ref o1)])
  refine oS (fun t k => XS.iloadN X35.here hx rfl (hb hby dap02_38) rfl  k) ?_
  refine oS (fun t k => XS.iadd X35.here hx rfl (hb hby dap02_39) rfl k) ?_
  show oG p e below _ T35 (mkF m 40 #[.val (.ref o1), .val (.ref s1), .val (.int 2)] [(.int ((2 : Int32) + (2 : Int32))), (.ref o1)])
  rw [(by decide : ((2 : Int32) + (2 : Int32)) = (4 : Int32))]
  show oG p e below _ T35 (mkF m 40 #[.val (.ref o1), .val (.ref s1), .val (.int 2)] [(.int 4), (.ref o1)])
  obtain ⟨T40, h40, X40, e40, W40, st40⟩ := putF X35 hx hZ hown (host := "") (Or.inl (oW hw 124 rfl)) Via.refl e35 D30 E30 (Or.inl (oW hw 125 rfl)) (oW hw 85 rfl) (ty := .int) (by decide) rfl rfl (g := (mkF m 40 #[.val (.ref o1), .val (.ref s1), .val (.int 2)] [(.int 4), (.ref o1)])) rfl rfl (hb hby dap02_40)
  refine oS st40 ?_
  have N40 := Fr.snoc X40 N30 go
  have E40_o := E30.wr W40
  have F40_value := F30.other W40 (Or.inr (slot_ne (Or.inl (oW hw 99 rfl)) (Or.inl (oW hw 125 rfl)) (by decide) (t := (.array .byte)) (t' := .int) (by decide) (by decide)))
  have F40_coder := C30.other W40 (Or.inr (slot_ne (Or.inl (oW hw 101 rfl)) (Or.inl (oW hw 125 rfl)) (by decide) (t := .byte) (t' := .int) (by decide) (by decide)))
  have F40_count := D30.same W40
  show oG p e below _ T40 (mkF m 43 #[.val (.ref o1), .val (.ref s1), .val (.int 2)] [])
  have B40 := B30.other W40 hob.symm
  refine oS (fun t k => XS.aloadN X40.here hx rfl (hb hby dap02_43) rfl rfl k) ?_
  show oG p e below _ T40 (mkF m 44 #[.val (.ref o1), .val (.ref s1), .val (.int 2)] [(.ref o1)])
  refine own_retA X40 hx hlk hret rfl rfl (hb hby dap02_44) ?_ (by decide) (by decide)
  rw [e40]
  exact ⟨rfl, N40, ((Keep.refl h0 [o1, b1]).trans K30 (allS (Or.inl (List.mem_of_getElem? (i := 1) rfl)) all0)).wr W40 (Or.inl (List.mem_of_getElem? (i := 0) rfl)), E40_o, F40_value, F40_coder, F40_count, B40⟩
theorem efsa22 (m : MethodId) (x0 : Addr) (x1 : Addr) : entryFrame m #[(.ref x0), (.ref x1)] 2 = mkF m 0 #[.val (.ref x0), .val (.ref x1)] [] := by first | (simp [entryFrame, mkF, argsToLocals, Value.category]; done) | rfl
set_option maxRecDepth 65536 in
set_option maxHeartbeats 40000000 in
theorem rm_sa22 (l : Launch) (Z : State) (a0 : Array Value) (hw : ∀ d ∈ tables_1, d.before a0 Z = true) (ws : List Jvm.Cond) (o1 : Addr) (b1 : Addr) (s1 : Addr) (t1 : Addr) (kt : ClassId) (kb : ClassId) (CS : Int32) (c0 : Int32) (c1 : Int32) (d0 : Value) (d1 : Value) (d2 : Value) (d3 : Value) (d4 : Value) (d5 : Value) (d6 : Value) (d7 : Value) (d8 : Value) (d9 : Value) (d10 : Value) (d11 : Value) (d12 : Value) (d13 : Value) (d14 : Value) (d15 : Value) (h0 : Heap) (n0 : Nat) (Z0 : n0 ≤ h0.size) (Es : Exa Z h0 s1 "java/lang/String") (Vs : Fld Z h0 s1 "java/lang/String" "value" "[B" (.ref t1)) (Cs : Fld Z h0 s1 "java/lang/String" "coder" "B" (.int 0)) (At : Arv Z h0 t1 kt .byte (2 : Int32) [(.int (c0.toInt8.toInt32)), (.int (c1.toInt8.toInt32))] (.int 0)) (E1 : Exa Z h0 o1 "java/lang/StringBuilder") (F1 : Fld Z h0 o1 "java/lang/AbstractStringBuilder" "value" "[B" (.ref b1)) (C1 : Fld Z h0 o1 "java/lang/AbstractStringBuilder" "coder" "B" (.int 0)) (D1 : Fld Z h0 o1 "java/lang/AbstractStringBuilder" "count" "I" (.int 2)) (B1 : Arv Z h0 b1 kb .byte (16 : Int32) [d0, d1, d2, d3, d4, d5, d6, d7, d8, d9, d10, d11, d12, d13, d14, d15] (.int 0)) (go : n0 ≤ o1) (gb : n0 ≤ b1) (hob : o1 ≠ b1) (hp : ∀ c ∈ ([c0, c1] : List Int32), ¬ c < 0 ∧ ¬ (255 : Int32) < c) (SC : Sta Z h0 "java/lang/String" "COMPACT_STRINGS" "Z" (.int CS)) (hCS : ¬ CS = 0) :
    own_Met l Z ws (⟨"java/lang/StringBuilder", "append", "(Ljava/lang/String;)Ljava/lang/StringBuilder;"⟩ : MethodName) jdk_67_method_7_code 2 (some (.object "java/lang/StringBuilder")) ({ frames := 4, cells := 0, slots := 0, locals := 80 } : Room) #[(.ref o1), (.ref s1)] h0 (fun v h L => v = some (.ref o1) ∧ Fr n0 L ∧ Keep h0 h [o1, b1] ∧ Exa Z h o1 "java/lang/StringBuilder" ∧ Fld Z h o1 "java/lang/AbstractStringBuilder" "value" "[B" (.ref b1) ∧ Fld Z h o1 "java/lang/AbstractStringBuilder" "coder" "B" (.int 0) ∧ Fld Z h o1 "java/lang/AbstractStringBuilder" "count" "I" (.int 4) ∧ Arv Z h b1 kb .byte (16 : Int32) [d0, d1, (.int (c0.toInt8.toInt32)), (.int (c1.toInt8.toInt32)), d4, d5, d6, d7, d8, d9, d10, d11, d12, d13, d14, d15] (.int 0)) := by
  refine own_body (plainFor_of_name pn_5) ?_
  intro p e s m below meth c s₁ hx hby hml hret hlk hown hnm hZ X0 e0
  have hml : c.maxLocals = 2 := hml
  have hown : s.vm.findClass "java/lang/StringBuilder" = some m.cls := hown
  have N0 := Fr.nil n0
  refine own_cast (efsa22 m o1 s1) ?_
  show oG p e below _ s₁ (mkF m 0 #[.val (.ref o1), .val (.ref s1)] [])
  refine oS (fun t k => XS.aloadN X0.here hx rfl (hb hby dsa02_0) rfl rfl k) ?_
  refine oS (fun t k => XS.aloadN X0.here hx rfl (hb hby dsa02_1) rfl rfl k) ?_
  show oG p e below _ s₁ (mkF m 2 #[.val (.ref o1), .val (.ref s1)] [(.ref s1), (.ref o1)])
  refine own_callUp X0 hx hZ (y := (⟨"java/lang/AbstractStringBuilder", "append", "(Ljava/lang/String;)Ljava/lang/AbstractStringBuilder;"⟩ : MethodName)) (W := 0) (kc := 0) (ks := 0) hown (oW hw 108 rfl) (own_same (oW hw 129 rfl) rfl (oW hw 109 rfl) (by decide)) (oW hw 109 rfl) (oW hw 110 rfl) (by decide) (oW hw 112 rfl) (own_back (W := 0) (rm_ap22 l Z a0 hw [] o1 b1 s1 t1 kt kb CS c0 c1 d0 d1 d2 d3 d4 d5 d6 d7 d8 d9 d10 d11 d12 d13 d14 d15 h0 n0 Z0 Es Vs Cs At E1 F1 C1 D1 B1 go gb hob hp SC hCS) hZ (oW hw 112 rfl) (oW hw 94 rfl) (by decide) (by decide)) (b := o1) E1 (g := (mkF m 2 #[.val (.ref o1), .val (.ref s1)] [(.ref s1), (.ref o1)])) rfl (by rw [hml]; rfl) (argsL := [(.ref s1)]) (rest := []) (lenOf pd_12 rfl) rfl (by show 2 * 0 + _ ≤ _; exact Nat.le_of_eq rfl) (hb hby dsa02_2) rfl e0 (by decide) (by decide) (fun v2 T2 L2 X2 hQ2 => ?_)
  obtain ⟨rfl, M2, q1, q2, q3, q4, q5, q6⟩ := hQ2
  show oG p e below _ T2 (mkF m 5 #[.val (.ref o1), .val (.ref s1)] [(.ref o1)])
  refine oS (fun t k => XS.pop X2.here hx rfl (hb hby dsa02_5) rfl rfl k) ?_
  show oG p e below _ T2 (mkF m 6 #[.val (.ref o1), .val (.ref s1)] [])
  refine oS (fun t k => XS.aloadN X2.here hx rfl (hb hby dsa02_6) rfl rfl k) ?_
  show oG p e below _ T2 (mkF m 7 #[.val (.ref o1), .val (.ref s1)] [(.ref o1)])
  refine own_retA X2 hx hlk hret rfl rfl (hb hby dsa02_7) ?_ (by decide) (by decide)
  exact ⟨rfl, Fr.app N0 M2, q1, q2, q3, q4, q5, q6⟩
theorem efgb23 (m : MethodId) (x0 : Addr) (x1 : Addr) (x2 : Int32) (x3 : Int32) : entryFrame m #[(.ref x0), (.ref x1), (.int x2), (.int x3)] 4 = mkF m 0 #[.val (.ref x0), .val (.ref x1), .val (.int x2), .val (.int x3)] [] := by first | (simp [entryFrame, mkF, argsToLocals, Value.category]; done) | rfl
set_option maxRecDepth 65536 in
set_option maxHeartbeats 40000000 in
theorem rm_gb23 (l : Launch) (Z : State) (a0 : Array Value) (hw : ∀ d ∈ tables_1, d.before a0 Z = true) (ws : List Jvm.Cond) (s1 : Addr) (b1 : Addr) (t1 : Addr) (kt : ClassId) (kb : ClassId) (CS : Int32) (c0 : Int32) (c1 : Int32) (c2 : Int32) (d0 : Value) (d1 : Value) (d2 : Value) (d3 : Value) (d4 : Value) (d5 : Value) (d6 : Value) (d7 : Value) (d8 : Value) (d9 : Value) (d10 : Value) (d11 : Value) (d12 : Value) (d13 : Value) (d14 : Value) (d15 : Value) (h0 : Heap) (n0 : Nat) (Z0 : n0 ≤ h0.size) (Es : Exa Z h0 s1 "java/lang/String") (Vs : Fld Z h0 s1 "java/lang/String" "value" "[B" (.ref t1)) (Cs : Fld Z h0 s1 "java/lang/String" "coder" "B" (.int 0)) (At : Arv Z h0 t1 kt .byte (3 : Int32) [(.int (c0.toInt8.toInt32)), (.int (c1.toInt8.toInt32)), (.int (c2.toInt8.toInt32))] (.int 0)) (B1 : Arv Z h0 b1 kb .byte (16 : Int32) [d0, d1, d2, d3, d4, d5, d6, d7, d8, d9, d10, d11, d12, d13, d14, d15] (.int 0)) (gb : n0 ≤ b1) (SC : Sta Z h0 "java/lang/String" "COMPACT_STRINGS" "Z" (.int CS)) (hCS : ¬ CS = 0) :
    own_Met l Z ws (⟨"java/lang/String", "getBytes", "([BIB)V"⟩ : MethodName) jdk_42_method_147_code 4 none ({ frames := 1, cells := 0, slots := 0, locals := 20 } : Room) #[(.ref s1), (.ref b1), (.int 2), (.int 0)] h0 (fun v h L => v = none ∧ Fr n0 L ∧ Keep h0 h [b1] ∧ Arv Z h b1 kb .byte (16 : Int32) [d0, d1, (.int (c0.toInt8.toInt32)), (.int (c1.toInt8.toInt32)), (.int (c2.toInt8.toInt32)), d5, d6, d7, d8, d9, d10, d11, d12, d13, d14, d15] (.int 0)) := by
  refine own_body (plainFor_of_name pn_2) ?_
  intro p e s m below meth c s₁ hx hby hml hret hlk hown hnm hZ X0 e0
  have hml : c.maxLocals = 4 := hml
  have hown : s.vm.findClass "java/lang/String" = some m.cls := hown
  have N0 := Fr.nil n0
  refine own_cast (efgb23 m s1 b1 (2 : Int32) (0 : Int32)) ?_
  show oG p e below _ s₁ (mkF m 0 #[.val (.ref s1), .val (.ref b1), .val (.int 2), .val (.int 0)] [])
  refine oS (fun t k => XS.aloadN X0.here hx rfl (hb hby dgb02_0) rfl rfl k) ?_
  show oG p e below _ s₁ (mkF m 1 #[.val (.ref s1), .val (.ref b1), .val (.int 2), .val (.int 0)] [(.ref s1)])
  refine own_callV X0 hx hZ (y := (⟨"java/lang/String", "coder", "()B"⟩ : MethodName)) (W := 0) (kc := 0) (ks := 0) hown (oW hw 118 rfl) (oW hw 119 rfl) (oW hw 121 rfl) (oW hw 120 rfl) (own_back (W := 0) (rm_co l Z a0 hw [] s1 CS h0 n0 Z0 Cs SC hCS) hZ (oW hw 122 rfl) (oW hw 6 rfl) (by decide) (by decide)) (by decide) (b := s1) Es (g := (mkF m 1 #[.val (.ref s1), .val (.ref b1), .val (.int 2), .val (.int 0)] [(.ref s1)])) rfl (by rw [hml]; rfl) (argsL := []) (rest := []) (lenOf pd_7 rfl) rfl (by show 2 * 0 + _ ≤ _; exact Nat.le_of_eq rfl) (hb hby dgb02_1) rfl e0 (by decide) (by decide) (fun v1 T1 L1 X1 hQ1 => ?_)
  obtain ⟨rfl, M1, e1⟩ := hQ1
  have N1 := Fr.app N0 M1
  show oG p e below _ T1 (mkF m 4 #[.val (.ref s1), .val (.ref b1), .val (.int 2), .val (.int 0)] [(.int 0)])
  refine oS (fun t k => XS.iloadN X1.here hx rfl (hb hby dgb02_4) rfl  k) ?_
  show oG p e below _ T1 (mkF m 5 #[.val (.ref s1), .val (.ref b1), .val (.int 2), .val (.int 0)] [(.int 0), (.int 0)])
  refine oS (fun t k => XS.icmpNo X1.here hx rfl (hb hby dgb02_5) rfl (teq (rfl : (0 : Int32) = 0)).2 k) ?_
  show oG p e below _ T1 (mkF m 8 #[.val (.ref s1), .val (.ref b1), .val (.int 2), .val (.int 0)] [])
  refine oS (fun t k => XS.aloadN X1.here hx rfl (hb hby dgb02_8) rfl rfl k) ?_
  show oG p e below _ T1 (mkF m 9 #[.val (.ref s1), .val (.ref b1), .val (.int 2), .val (.int 0)] [(.ref s1)])
  obtain ⟨T9, X9, e9, st9⟩ := getF X1 hx hZ hown (host := "") (Or.inl (oW hw 24 rfl)) Via.refl e1 Vs (g := (mkF m 9 #[.val (.ref s1), .val (.ref b1), .val (.int 2), .val (.int 0)] [(.ref s1)])) rfl rfl (hb hby dgb02_9)
  refine oS st9 ?_
  show oG p e below _ T9 (mkF m 12 #[.val (.ref s1), .val (.ref b1), .val (.int 2), .val (.int 0)] [(.ref t1)])
  refine oS (fun t k => XS.iconst X9.here hx rfl (hb hby dgb02_12) k) ?_
  refine oS (fun t k => XS.aloadN X9.here hx rfl (hb hby dgb02_13) rfl rfl k) ?_
  refine oS (fun t k => XS.iloadN X9.here hx rfl (hb hby dgb02_14) rfl  k) ?_
  refine oS (fun t k => XS.iloadN X9.here hx rfl (hb hby dgb02_15) rfl  k) ?_
  refine oS (fun t k => XS.ishl X9.here hx rfl (hb hby dgb02_16) rfl k) ?_
  show oG p e below _ T9 (mkF m 17 #[.val (.ref s1), .val (.ref b1), .val (.int 2), .val (.int 0)] [(.int ((2 : Int32) <<< ((0 : Int32) &&& 31))), (.ref b1), (.int 0), (.ref t1)])
  rw [(by decide : ((2 : Int32) <<< ((0 : Int32) &&& 31)) = (2 : Int32))]
  show oG p e below _ T9 (mkF m 17 #[.val (.ref s1), .val (.ref b1), .val (.int 2), .val (.int 0)] [(.int 2), (.ref b1), (.int 0), (.ref t1)])
  refine oS (fun t k => XS.aloadN X9.here hx rfl (hb hby dgb02_17) rfl rfl k) ?_
  show oG p e below _ T9 (mkF m 18 #[.val (.ref s1), .val (.ref b1), .val (.int 2), .val (.int 0)] [(.ref s1), (.int 2), (.ref b1), (.int 0), (.ref t1)])
  obtain ⟨T18, X18, e18, st18⟩ := getF X9 hx hZ hown (host := "") (Or.inl (oW hw 24 rfl)) Via.refl e9 Vs (g := (mkF m 18 #[.val (.ref s1), .val (.ref b1), .val (.int 2), .val (.int 0)] [(.ref s1), (.int 2), (.ref b1), (.int 0), (.ref t1)])) rfl rfl (hb hby dgb02_18)
  refine oS st18 ?_
  show oG p e below _ T18 (mkF m 21 #[.val (.ref s1), .val (.ref b1), .val (.int 2), .val (.int 0)] [(.ref t1), (.int 2), (.ref b1), (.int 0), (.ref t1)])
  obtain ⟨cl21, Ar21, -, S21, M21, -, -⟩ := id At
  refine oS (X18.arraylength hx (by rw [e18]; exact Ar21.1) (State.isArrayOf_alike hZ.alike Ar21.2.1) (g := (mkF m 21 #[.val (.ref s1), .val (.ref b1), .val (.int 2), .val (.int 0)] [(.ref t1), (.int 2), (.ref b1), (.int 0), (.ref t1)])) rfl rfl (hb hby dgb02_21)) ?_
  rw [len_of S21 M21]
  show oG p e below _ T18 (mkF m 22 #[.val (.ref s1), .val (.ref b1), .val (.int 2), .val (.int 0)] [(.int 3), (.int 2), (.ref b1), (.int 0), (.ref t1)])
  obtain ⟨T22, h22, L22, X22, e22, N22, K22c, B22c, st22⟩ := cpA X18 hx hZ hown (oW hw 147 rfl) (oW hw 150 rfl) (oW hw 148 rfl) (oW hw 149 rfl) e18 At B1 (Or.inl ⟨rfl, rfl⟩) (by decide) (by decide) (by decide) (by decide) (by decide) rfl (Nat.le_of_ble_eq_true rfl) N1 gb (g := (mkF m 22 #[.val (.ref s1), .val (.ref b1), .val (.int 2), .val (.int 0)] [(.int 3), (.int 2), (.ref b1), (.int 0), (.ref t1)])) rfl (by rw [hml]; rfl) rfl (hb hby dgb02_22) (by decide) (W := 0) (by show 2 * 0 + _ ≤ _; exact Nat.le_of_eq rfl) (by decide)
  refine oS st22 ?_
  show oG p e below _ T22 (mkF m 25 #[.val (.ref s1), .val (.ref b1), .val (.int 2), .val (.int 0)] [])
  refine oS (fun t k => XS.goto X22.here hx rfl (pc0 := 25) (pc' := 43) rfl (hb hby dgb02_25) (by decide) (by decide) k) ?_
  show oG p e below _ T22 (mkF m 43 #[.val (.ref s1), .val (.ref b1), .val (.int 2), .val (.int 0)] [])
  refine own_retV X22 hx hlk hret (hb hby dgb02_43) ?_ (by decide) (by decide)
  rw [e22]
  exact ⟨rfl, N22, K22c, B22c⟩
theorem efps23 (m : MethodId) (x0 : Addr) (x1 : Int32) (x2 : Addr) : entryFrame m #[(.ref x0), (.int x1), (.ref x2)] 3 = mkF m 0 #[.val (.ref x0), .val (.int x1), .val (.ref x2)] [] := by first | (simp [entryFrame, mkF, argsToLocals, Value.category]; done) | rfl
set_option maxRecDepth 65536 in
set_option maxHeartbeats 40000000 in
theorem rm_ps23 (l : Launch) (Z : State) (a0 : Array Value) (hw : ∀ d ∈ tables_1, d.before a0 Z = true) (ws : List Jvm.Cond) (o1 : Addr) (b1 : Addr) (s1 : Addr) (t1 : Addr) (kt : ClassId) (kb : ClassId) (CS : Int32) (c0 : Int32) (c1 : Int32) (c2 : Int32) (d0 : Value) (d1 : Value) (d2 : Value) (d3 : Value) (d4 : Value) (d5 : Value) (d6 : Value) (d7 : Value) (d8 : Value) (d9 : Value) (d10 : Value) (d11 : Value) (d12 : Value) (d13 : Value) (d14 : Value) (d15 : Value) (h0 : Heap) (n0 : Nat) (Z0 : n0 ≤ h0.size) (Es : Exa Z h0 s1 "java/lang/String") (Vs : Fld Z h0 s1 "java/lang/String" "value" "[B" (.ref t1)) (Cs : Fld Z h0 s1 "java/lang/String" "coder" "B" (.int 0)) (At : Arv Z h0 t1 kt .byte (3 : Int32) [(.int (c0.toInt8.toInt32)), (.int (c1.toInt8.toInt32)), (.int (c2.toInt8.toInt32))] (.int 0)) (E1 : Exa Z h0 o1 "java/lang/StringBuilder") (F1 : Fld Z h0 o1 "java/lang/AbstractStringBuilder" "value" "[B" (.ref b1)) (C1 : Fld Z h0 o1 "java/lang/AbstractStringBuilder" "coder" "B" (.int 0)) (B1 : Arv Z h0 b1 kb .byte (16 : Int32) [d0, d1, d2, d3, d4, d5, d6, d7, d8, d9, d10, d11, d12, d13, d14, d15] (.int 0)) (gb : n0 ≤ b1) (SC : Sta Z h0 "java/lang/String" "COMPACT_STRINGS" "Z" (.int CS)) (hCS : ¬ CS = 0) :
    own_Met l Z ws (⟨"java/lang/AbstractStringBuilder", "putStringAt", "(ILjava/lang/String;)V"⟩ : MethodName) jdk_68_method_73_code 3 none ({ frames := 2, cells := 0, slots := 0, locals := 40 } : Room) #[(.ref o1), (.int 2), (.ref s1)] h0 (fun v h L => v = none ∧ Fr n0 L ∧ Keep h0 h [b1] ∧ Arv Z h b1 kb .byte (16 : Int32) [d0, d1, (.int (c0.toInt8.toInt32)), (.int (c1.toInt8.toInt32)), (.int (c2.toInt8.toInt32)), d5, d6, d7, d8, d9, d10, d11, d12, d13, d14, d15] (.int 0)) := by
  refine own_body (plainFor_of_name pn_4) ?_
  intro p e s m below meth c s₁ hx hby hml hret hlk hown hnm hZ X0 e0
  have hml : c.maxLocals = 3 := hml
  have hown : s.vm.findClass "java/lang/AbstractStringBuilder" = some m.cls := hown
  have N0 := Fr.nil n0
  refine own_cast (efps23 m o1 (2 : Int32) s1) ?_
  show oG p e below _ s₁ (mkF m 0 #[.val (.ref o1), .val (.int 2), .val (.ref s1)] [])
  refine oS (fun t k => XS.aloadN X0.here hx rfl (hb hby dps02_0) rfl rfl k) ?_
  refine oS (fun t k => XS.aloadN X0.here hx rfl (hb hby dps02_1) rfl rfl k) ?_
  show oG p e below _ s₁ (mkF m 2 #[.val (.ref o1), .val (.int 2), .val (.ref s1)] [(.ref s1), (.ref o1)])
  refine own_callVC X0 hx hZ (y := (⟨"java/lang/AbstractStringBuilder", "inflateIfNeededFor", "(Ljava/lang/String;)V"⟩ : MethodName)) (z := (⟨"java/lang/AbstractStringBuilder", "inflateIfNeededFor", "(Ljava/lang/String;)V"⟩ : MethodName)) (W := 0) (kc := 0) (ks := 0) hown (oW hw 136 rfl) (own_decl (oW hw 137 rfl) (oW hw 140 rfl)) (own_nf (oW hw 129 rfl) rfl hZ) (oW hw 139 rfl) (oW hw 137 rfl) (own_back (W := 0) (rm_if l Z a0 hw [] o1 s1 CS h0 n0 Z0 C1 Es Cs SC hCS) hZ (oW hw 140 rfl) (oW hw 94 rfl) (by decide) (by decide)) (by decide) (b := o1) E1 (g := (mkF m 2 #[.val (.ref o1), .val (.int 2), .val (.ref s1)] [(.ref s1), (.ref o1)])) rfl (by rw [hml]; rfl) (argsL := [(.ref s1)]) (rest := []) (lenOf pd_9 rfl) rfl (by show 2 * 0 + _ ≤ _; exact Nat.le_of_eq rfl) (hb hby dps02_2) rfl e0 (by decide) (by decide) (fun v2 T2 L2 X2 hQ2 => ?_)
  obtain ⟨rfl, M2, e2⟩ := hQ2
  show oG p e below _ T2 (mkF m 5 #[.val (.ref o1), .val (.int 2), .val (.ref s1)] [])
  refine oS (fun t k => XS.aloadN X2.here hx rfl (hb hby dps02_5) rfl rfl k) ?_
  refine oS (fun t k => XS.aloadN X2.here hx rfl (hb hby dps02_6) rfl rfl k) ?_
  show oG p e below _ T2 (mkF m 7 #[.val (.ref o1), .val (.int 2), .val (.ref s1)] [(.ref o1), (.ref s1)])
  obtain ⟨T7, X7, e7, st7⟩ := getF X2 hx hZ hown (host := "") (Or.inl (oW hw 98 rfl)) Via.refl e2 F1 (g := (mkF m 7 #[.val (.ref o1), .val (.int 2), .val (.ref s1)] [(.ref o1), (.ref s1)])) rfl rfl (hb hby dps02_7)
  refine oS st7 ?_
  show oG p e below _ T7 (mkF m 10 #[.val (.ref o1), .val (.int 2), .val (.ref s1)] [(.ref b1), (.ref s1)])
  refine oS (fun t k => XS.iloadN X7.here hx rfl (hb hby dps02_10) rfl  k) ?_
  refine oS (fun t k => XS.aloadN X7.here hx rfl (hb hby dps02_11) rfl rfl k) ?_
  show oG p e below _ T7 (mkF m 12 #[.val (.ref o1), .val (.int 2), .val (.ref s1)] [(.ref o1), (.int 2), (.ref b1), (.ref s1)])
  obtain ⟨T12, X12, e12, st12⟩ := getF X7 hx hZ hown (host := "") (Or.inl (oW hw 100 rfl)) Via.refl e7 C1 (g := (mkF m 12 #[.val (.ref o1), .val (.int 2), .val (.ref s1)] [(.ref o1), (.int 2), (.ref b1), (.ref s1)])) rfl rfl (hb hby dps02_12)
  refine oS st12 ?_
  show oG p e below _ T12 (mkF m 15 #[.val (.ref o1), .val (.int 2), .val (.ref s1)] [(.int 0), (.int 2), (.ref b1), (.ref s1)])
  refine own_callV X12 hx hZ (y := (⟨"java/lang/String", "getBytes", "([BIB)V"⟩ : MethodName)) (W := 0) (kc := 0) (ks := 0) hown (oW hw 142 rfl) (oW hw 143 rfl) (oW hw 145 rfl) (oW hw 144 rfl) (own_back (W := 0) (rm_gb23 l Z a0 hw [] s1 b1 t1 kt kb CS c0 c1 c2 d0 d1 d2 d3 d4 d5 d6 d7 d8 d9 d10 d11 d12 d13 d14 d15 h0 n0 Z0 Es Vs Cs At B1 gb SC hCS) hZ (oW hw 146 rfl) (oW hw 6 rfl) (by decide) (by decide)) (by decide) (b := s1) Es (g := (mkF m 15 #[.val (.ref o1), .val (.int 2), .val (.ref s1)] [(.int 0), (.int 2), (.ref b1), (.ref s1)])) rfl (by rw [hml]; rfl) (argsL := [(.ref b1), (.int 2), (.int 0)]) (rest := []) (lenOf pd_10 rfl) rfl (by show 2 * 0 + _ ≤ _; exact Nat.le_of_eq rfl) (hb hby dps02_15) rfl e12 (by decide) (by decide) (fun v15 T15 L15 X15 hQ15 => ?_)
  obtain ⟨rfl, M15, K15, B15⟩ := hQ15
  show oG p e below _ T15 (mkF m 18 #[.val (.ref o1), .val (.int 2), .val (.ref s1)] [])
  refine own_retV X15 hx hlk hret (hb hby dps02_18) ?_ (by decide) (by decide)
  exact ⟨rfl, Fr.app (Fr.app N0 M2) M15, K15, B15⟩
theorem efap23 (m : MethodId) (x0 : Addr) (x1 : Addr) : entryFrame m #[(.ref x0), (.ref x1)] 3 = mkF m 0 #[.val (.ref x0), .val (.ref x1), .unset] [] := by first | (simp [entryFrame, mkF, argsToLocals, Value.category]; done) | rfl
set_option maxRecDepth 65536 in
set_option maxHeartbeats 40000000 in
theorem rm_ap23 (l : Launch) (Z : State) (a0 : Array Value) (hw : ∀ d ∈ tables_1, d.before a0 Z = true) (ws : List Jvm.Cond) (o1 : Addr) (b1 : Addr) (s1 : Addr) (t1 : Addr) (kt : ClassId) (kb : ClassId) (CS : Int32) (c0 : Int32) (c1 : Int32) (c2 : Int32) (d0 : Value) (d1 : Value) (d2 : Value) (d3 : Value) (d4 : Value) (d5 : Value) (d6 : Value) (d7 : Value) (d8 : Value) (d9 : Value) (d10 : Value) (d11 : Value) (d12 : Value) (d13 : Value) (d14 : Value) (d15 : Value) (h0 : Heap) (n0 : Nat) (Z0 : n0 ≤ h0.size) (Es : Exa Z h0 s1 "java/lang/String") (Vs : Fld Z h0 s1 "java/lang/String" "value" "[B" (.ref t1)) (Cs : Fld Z h0 s1 "java/lang/String" "coder" "B" (.int 0)) (At : Arv Z h0 t1 kt .byte (3 : Int32) [(.int (c0.toInt8.toInt32)), (.int (c1.toInt8.toInt32)), (.int (c2.toInt8.toInt32))] (.int 0)) (E1 : Exa Z h0 o1 "java/lang/StringBuilder") (F1 : Fld Z h0 o1 "java/lang/AbstractStringBuilder" "value" "[B" (.ref b1)) (C1 : Fld Z h0 o1 "java/lang/AbstractStringBuilder" "coder" "B" (.int 0)) (D1 : Fld Z h0 o1 "java/lang/AbstractStringBuilder" "count" "I" (.int 2)) (B1 : Arv Z h0 b1 kb .byte (16 : Int32) [d0, d1, d2, d3, d4, d5, d6, d7, d8, d9, d10, d11, d12, d13, d14, d15] (.int 0)) (go : n0 ≤ o1) (gb : n0 ≤ b1) (hob : o1 ≠ b1) (hp : ∀ c ∈ ([c0, c1, c2] : List Int32), ¬ c < 0 ∧ ¬ (255 : Int32) < c) (SC : Sta Z h0 "java/lang/String" "COMPACT_STRINGS" "Z" (.int CS)) (hCS : ¬ CS = 0) :
    own_Met l Z ws (⟨"java/lang/AbstractStringBuilder", "append", "(Ljava/lang/String;)Ljava/lang/AbstractStringBuilder;"⟩ : MethodName) jdk_68_method_22_code 3 (some (.object "java/lang/AbstractStringBuilder")) ({ frames := 3, cells := 0, slots := 0, locals := 60 } : Room) #[(.ref o1), (.ref s1)] h0 (fun v h L => v = some (.ref o1) ∧ Fr n0 L ∧ Keep h0 h [o1, b1] ∧ Exa Z h o1 "java/lang/StringBuilder" ∧ Fld Z h o1 "java/lang/AbstractStringBuilder" "value" "[B" (.ref b1) ∧ Fld Z h o1 "java/lang/AbstractStringBuilder" "coder" "B" (.int 0) ∧ Fld Z h o1 "java/lang/AbstractStringBuilder" "count" "I" (.int 5) ∧ Arv Z h b1 kb .byte (16 : Int32) [d0, d1, (.int (c0.toInt8.toInt32)), (.int (c1.toInt8.toInt32)), (.int (c2.toInt8.toInt32)), d5, d6, d7, d8, d9, d10, d11, d12, d13, d14, d15] (.int 0)) := by
  refine own_body (plainFor_of_name pn_4) ?_
  intro p e s m below meth c s₁ hx hby hml hret hlk hown hnm hZ X0 e0
  have hml : c.maxLocals = 3 := hml
  have hown : s.vm.findClass "java/lang/AbstractStringBuilder" = some m.cls := hown
  have N0 := Fr.nil n0
  have hln : ∀ d ∈ StrChars.Road.wordsLen, d.before a0 Z = true := fun d hd => hw d ((by decide +kernel : ∀ d ∈ StrChars.Road.wordsLen, d ∈ tables_1) d hd)
  have hcd : StrChars.Road.CodA ([c0, c1, c2] : List Int32) 0 (3 : Int32) [(.int (c0.toInt8.toInt32)), (.int (c1.toInt8.toInt32)), (.int (c2.toInt8.toInt32))] := StrChars.Road.codOf (n := 3) rfl (fun x hx => (hp x hx).2)
  refine own_cast (efap23 m o1 s1) ?_
  show oG p e below _ s₁ (mkF m 0 #[.val (.ref o1), .val (.ref s1), .unset] [])
  refine oS (fun t k => XS.aloadN X0.here hx rfl (hb hby dap02_0) rfl rfl k) ?_
  show oG p e below _ s₁ (mkF m 1 #[.val (.ref o1), .val (.ref s1), .unset] [(.ref s1)])
  refine oS (fun t k => XS.ifnonnullYes X0.here hx rfl (pc0 := 1) (pc' := 9) rfl (hb hby dap02_1) rfl (by decide) (by decide) k) ?_
  show oG p e below _ s₁ (mkF m 9 #[.val (.ref o1), .val (.ref s1), .unset] [])
  refine oS (fun t k => XS.aloadN X0.here hx rfl (hb hby dap02_9) rfl rfl k) ?_
  show oG p e below _ s₁ (mkF m 10 #[.val (.ref o1), .val (.ref s1), .unset] [(.ref s1)])
  refine own_callV X0 hx hZ (y := (⟨"java/lang/String", "length", "()I"⟩ : MethodName)) (W := 0) (Q := (fun v h L => v = some (.int (Int32.ofNat ([c0, c1, c2] : List Int32).length)) ∧ L = [] ∧ h = h0)) (kc := 0) (ks := 0) hown (oW hw 113 rfl) (oW hw 114 rfl) (oW hw 116 rfl) (oW hw 115 rfl) (StrChars.Road.lenW (W := 0) hZ hln (kI := 4) (oW hw 5 rfl) Es Vs Cs At hcd (own_up hp) SC hCS (Nat.le_of_ble_eq_true rfl) (by decide) (by decide)) (by decide) (b := s1) Es (g := (mkF m 10 #[.val (.ref o1), .val (.ref s1), .unset] [(.ref s1)])) rfl (by rw [hml]; rfl) (argsL := []) (rest := []) (lenOf pd_8 rfl) rfl (by show 2 * 0 + _ ≤ _; exact Nat.le_of_eq rfl) (hb hby dap02_10) rfl e0 (by decide) (by decide) (fun v10 T10 L10 X10 hQ10 => ?_)
  obtain ⟨rfl, rfl, e10⟩ := hQ10
  show oG p e below _ T10 (mkF m 13 #[.val (.ref o1), .val (.ref s1), .unset] [(.int 3)])
  refine oS (fun t k => XS.istoreN X10.here hx rfl (hb hby dap02_13) rfl (l' := #[.val (.ref o1), .val (.ref s1), .val (.int 3)]) rfl k) ?_
  show oG p e below _ T10 (mkF m 14 #[.val (.ref o1), .val (.ref s1), .val (.int 3)] [])
  refine oS (fun t k => XS.aloadN X10.here hx rfl (hb hby dap02_14) rfl rfl k) ?_
  refine oS (fun t k => XS.aloadN X10.here hx rfl (hb hby dap02_15) rfl rfl k) ?_
  show oG p e below _ T10 (mkF m 16 #[.val (.ref o1), .val (.ref s1), .val (.int 3)] [(.ref o1), (.ref o1)])
  obtain ⟨T16, X16, e16, st16⟩ := getF X10 hx hZ hown (host := "") (Or.inl (oW hw 124 rfl)) Via.refl e10 D1 (g := (mkF m 16 #[.val (.ref o1), .val (.ref s1), .val (.int 3)] [(.ref o1), (.ref o1)])) rfl rfl (hb hby dap02_16)
  refine oS st16 ?_
  show oG p e below _ T16 (mkF m 19 #[.val (.ref o1), .val (.ref s1), .val (.int 3)] [(.int 2), (.ref o1)])
  refine oS (fun t k => XS.iloadN X16.here hx rfl (hb hby dap02_19) rfl  k) ?_
  refine oS (fun t k => XS.iadd X16.here hx rfl (hb hby dap02_20) rfl k) ?_
  show oG p e below _ T16 (mkF m 21 #[.val (.ref o1), .val (.ref s1), .val (.int 3)] [(.int ((2 : Int32) + (3 : Int32))), (.ref o1)])
  rw [(by decide : ((2 : Int32) + (3 : Int32)) = (5 : Int32))]
  show oG p e below _ T16 (mkF m 21 #[.val (.ref o1), .val (.ref s1), .val (.int 3)] [(.int 5), (.ref o1)])
  refine own_callVC X16 hx hZ (y := (⟨"java/lang/AbstractStringBuilder", "ensureCapacityInternal", "(I)V"⟩ : MethodName)) (z := (⟨"java/lang/AbstractStringBuilder", "ensureCapacityInternal", "(I)V"⟩ : MethodName)) (W := 0) (kc := 0) (ks := 0) hown (oW hw 126 rfl) (own_decl (oW hw 127 rfl) (oW hw 130 rfl)) (own_nf (oW hw 129 rfl) rfl hZ) (oW hw 129 rfl) (oW hw 127 rfl) (own_back (W := 0) (rm_en5 l Z a0 hw [] o1 b1 kb _ h0 n0 Z0 F1 C1 B1) hZ (oW hw 130 rfl) (oW hw 94 rfl) (by decide) (by decide)) (by decide) (b := o1) E1 (g := (mkF m 21 #[.val (.ref o1), .val (.ref s1), .val (.int 3)] [(.int 5), (.ref o1)])) rfl (by rw [hml]; rfl) (argsL := [(.int 5)]) (rest := []) (lenOf pd_6 rfl) rfl (by show 2 * 0 + _ ≤ _; exact Nat.le_of_eq rfl) (hb hby dap02_21) rfl e16 (by decide) (by decide) (fun v21 T21 L21 X21 hQ21 => ?_)
  obtain ⟨rfl, M21, e21⟩ := hQ21
  show oG p e below _ T21 (mkF m 24 #[.val (.ref o1), .val (.ref s1), .val (.int 3)] [])
  refine oS (fun t k => XS.aloadN X21.here hx rfl (hb hby dap02_24) rfl rfl k) ?_
  refine oS (fun t k => XS.aloadN X21.here hx rfl (hb hby dap02_25) rfl rfl k) ?_
  show oG p e below _ T21 (mkF m 26 #[.val (.ref o1), .val (.ref s1), .val (.int 3)] [(.ref o1), (.ref o1)])
  obtain ⟨T26, X26, e26, st26⟩ := getF X21 hx hZ hown (host := "") (Or.inl (oW hw 124 rfl)) Via.refl e21 D1 (g := (mkF m 26 #[.val (.ref o1), .val (.ref s1), .val (.int 3)] [(.ref o1), (.ref o1)])) rfl rfl (hb hby dap02_26)
  refine oS st26 ?_
  show oG p e below _ T26 (mkF m 29 #[.val (.ref o1), .val (.ref s1), .val (.int 3)] [(.int 2), (.ref o1)])
  refine oS (fun t k => XS.aloadN X26.here hx rfl (hb hby dap02_29) rfl rfl k) ?_
  show oG p e below _ T26 (mkF m 30 #[.val (.ref o1), .val (.ref s1), .val (.int 3)] [(.ref s1), (.int 2), (.ref o1)])
  refine own_callVC X26 hx hZ (y := (⟨"java/lang/AbstractStringBuilder", "putStringAt", "(ILjava/lang/String;)V"⟩ : MethodName)) (z := (⟨"java/lang/AbstractStringBuilder", "putStringAt", "(ILjava/lang/String;)V"⟩ : MethodName)) (W := 0) (kc := 0) (ks := 0) hown (oW hw 131 rfl) (own_decl (oW hw 132 rfl) (oW hw 135 rfl)) (own_nf (oW hw 129 rfl) rfl hZ) (oW hw 134 rfl) (oW hw 132 rfl) (own_back (W := 0) (rm_ps23 l Z a0 hw [] o1 b1 s1 t1 kt kb CS c0 c1 c2 d0 d1 d2 d3 d4 d5 d6 d7 d8 d9 d10 d11 d12 d13 d14 d15 h0 n0 Z0 Es Vs Cs At E1 F1 C1 B1 gb SC hCS) hZ (oW hw 135 rfl) (oW hw 94 rfl) (by decide) (by decide)) (by decide) (b := o1) E1 (g := (mkF m 30 #[.val (.ref o1), .val (.ref s1), .val (.int 3)] [(.ref s1), (.int 2), (.ref o1)])) rfl (by rw [hml]; rfl) (argsL := [(.int 2), (.ref s1)]) (rest := []) (lenOf pd_11 rfl) rfl (by show 2 * 0 + _ ≤ _; exact Nat.le_of_eq rfl) (hb hby dap02_30) rfl e26 (by decide) (by decide) (fun v30 T30 L30 X30 hQ30 => ?_)
  obtain ⟨rfl, M30, K30, B30⟩ := hQ30
  have N30 := Fr.app (Fr.app (Fr.app N0 (Fr.nil n0)) M21) M30
  have E30 := E1.keep K30
  have F30 := F1.keep K30 (ninS hob nin0)
  have C30 := C1.keep K30 (ninS hob nin0)
  have D30 := D1.keep K30 (ninS hob nin0)
  show oG p e below _ T30 (mkF m 33 #[.val (.ref o1), .val (.ref s1), .val (.int 3)] [])
  refine oS (fun t k => XS.aloadN X30.here hx rfl (hb hby dap02_33) rfl rfl k) ?_
  refine oS (fun t k => XS.dup X30.here hx rfl (hb hby dap02_34) rfl rfl k) ?_
  show oG p e below _ T30 (mkF m 35 #[.val (.ref o1), .val (.ref s1), .val (.int 3)] [(.ref o1), (.ref o1)])
  obtain ⟨T35, X35, e35, st35⟩ := getF X30 hx hZ hown (host := "") (Or.inl (oW hw 124 rfl)) Via.refl rfl D30 (g := (mkF m 35 #[.val (.ref o1), .val (.ref s1), .val (.int 3)] [(.ref o1), (.ref o1)])) rfl rfl (hb hby dap02_35)
  refine oS st35 ?_
  show oG p e below _ T35 (mkF m 38 #[.val (.ref o1), .val (.ref s1), .val (.int 3)] [(.int 2), (.ref o1)])
  refine oS (fun t k => XS.iloadN X35.here hx rfl (hb hby dap02_38) rfl  k) ?_
  refine oS (fun t k => XS.iadd X35.here hx rfl (hb hby dap02_39) rfl k) ?_
  show oG p e below _ T35 (mkF m 40 #[.val (.ref o1), .val (.ref s1), .val (.int 3)] [(.int ((2 : Int32) + (3 : Int32))), (.ref o1)])
  rw [(by decide : ((2 : Int32) + (3 : Int32)) = (5 : Int32))]
  show oG p e below _ T35 (mkF m 40 #[.val (.ref o1), .val (.ref s1), .val (.int 3)] [(.int 5), (.ref o1)])
  obtain ⟨T40, h40, X40, e40, W40, st40⟩ := putF X35 hx hZ hown (host := "") (Or.inl (oW hw 124 rfl)) Via.refl e35 D30 E30 (Or.inl (oW hw 125 rfl)) (oW hw 85 rfl) (ty := .int) (by decide) rfl rfl (g := (mkF m 40 #[.val (.ref o1), .val (.ref s1), .val (.int 3)] [(.int 5), (.ref o1)])) rfl rfl (hb hby dap02_40)
  refine oS st40 ?_
  have N40 := Fr.snoc X40 N30 go
  have E40_o := E30.wr W40
  have F40_value := F30.other W40 (Or.inr (slot_ne (Or.inl (oW hw 99 rfl)) (Or.inl (oW hw 125 rfl)) (by decide) (t := (.array .byte)) (t' := .int) (by decide) (by decide)))
  have F40_coder := C30.other W40 (Or.inr (slot_ne (Or.inl (oW hw 101 rfl)) (Or.inl (oW hw 125 rfl)) (by decide) (t := .byte) (t' := .int) (by decide) (by decide)))
  have F40_count := D30.same W40
  show oG p e below _ T40 (mkF m 43 #[.val (.ref o1), .val (.ref s1), .val (.int 3)] [])
  have B40 := B30.other W40 hob.symm
  refine oS (fun t k => XS.aloadN X40.here hx rfl (hb hby dap02_43) rfl rfl k) ?_
  show oG p e below _ T40 (mkF m 44 #[.val (.ref o1), .val (.ref s1), .val (.int 3)] [(.ref o1)])
  refine own_retA X40 hx hlk hret rfl rfl (hb hby dap02_44) ?_ (by decide) (by decide)
  rw [e40]
  exact ⟨rfl, N40, ((Keep.refl h0 [o1, b1]).trans K30 (allS (Or.inl (List.mem_of_getElem? (i := 1) rfl)) all0)).wr W40 (Or.inl (List.mem_of_getElem? (i := 0) rfl)), E40_o, F40_value, F40_coder, F40_count, B40⟩
theorem efsa23 (m : MethodId) (x0 : Addr) (x1 : Addr) : entryFrame m #[(.ref x0), (.ref x1)] 2 = mkF m 0 #[.val (.ref x0), .val (.ref x1)] [] := by first | (simp [entryFrame, mkF, argsToLocals, Value.category]; done) | rfl
set_option maxRecDepth 65536 in
set_option maxHeartbeats 40000000 in
theorem rm_sa23 (l : Launch) (Z : State) (a0 : Array Value) (hw : ∀ d ∈ tables_1, d.before a0 Z = true) (ws : List Jvm.Cond) (o1 : Addr) (b1 : Addr) (s1 : Addr) (t1 : Addr) (kt : ClassId) (kb : ClassId) (CS : Int32) (c0 : Int32) (c1 : Int32) (c2 : Int32) (d0 : Value) (d1 : Value) (d2 : Value) (d3 : Value) (d4 : Value) (d5 : Value) (d6 : Value) (d7 : Value) (d8 : Value) (d9 : Value) (d10 : Value) (d11 : Value) (d12 : Value) (d13 : Value) (d14 : Value) (d15 : Value) (h0 : Heap) (n0 : Nat) (Z0 : n0 ≤ h0.size) (Es : Exa Z h0 s1 "java/lang/String") (Vs : Fld Z h0 s1 "java/lang/String" "value" "[B" (.ref t1)) (Cs : Fld Z h0 s1 "java/lang/String" "coder" "B" (.int 0)) (At : Arv Z h0 t1 kt .byte (3 : Int32) [(.int (c0.toInt8.toInt32)), (.int (c1.toInt8.toInt32)), (.int (c2.toInt8.toInt32))] (.int 0)) (E1 : Exa Z h0 o1 "java/lang/StringBuilder") (F1 : Fld Z h0 o1 "java/lang/AbstractStringBuilder" "value" "[B" (.ref b1)) (C1 : Fld Z h0 o1 "java/lang/AbstractStringBuilder" "coder" "B" (.int 0)) (D1 : Fld Z h0 o1 "java/lang/AbstractStringBuilder" "count" "I" (.int 2)) (B1 : Arv Z h0 b1 kb .byte (16 : Int32) [d0, d1, d2, d3, d4, d5, d6, d7, d8, d9, d10, d11, d12, d13, d14, d15] (.int 0)) (go : n0 ≤ o1) (gb : n0 ≤ b1) (hob : o1 ≠ b1) (hp : ∀ c ∈ ([c0, c1, c2] : List Int32), ¬ c < 0 ∧ ¬ (255 : Int32) < c) (SC : Sta Z h0 "java/lang/String" "COMPACT_STRINGS" "Z" (.int CS)) (hCS : ¬ CS = 0) :
    own_Met l Z ws (⟨"java/lang/StringBuilder", "append", "(Ljava/lang/String;)Ljava/lang/StringBuilder;"⟩ : MethodName) jdk_67_method_7_code 2 (some (.object "java/lang/StringBuilder")) ({ frames := 4, cells := 0, slots := 0, locals := 80 } : Room) #[(.ref o1), (.ref s1)] h0 (fun v h L => v = some (.ref o1) ∧ Fr n0 L ∧ Keep h0 h [o1, b1] ∧ Exa Z h o1 "java/lang/StringBuilder" ∧ Fld Z h o1 "java/lang/AbstractStringBuilder" "value" "[B" (.ref b1) ∧ Fld Z h o1 "java/lang/AbstractStringBuilder" "coder" "B" (.int 0) ∧ Fld Z h o1 "java/lang/AbstractStringBuilder" "count" "I" (.int 5) ∧ Arv Z h b1 kb .byte (16 : Int32) [d0, d1, (.int (c0.toInt8.toInt32)), (.int (c1.toInt8.toInt32)), (.int (c2.toInt8.toInt32)), d5, d6, d7, d8, d9, d10, d11, d12, d13, d14, d15] (.int 0)) := by
  refine own_body (plainFor_of_name pn_5) ?_
  intro p e s m below meth c s₁ hx hby hml hret hlk hown hnm hZ X0 e0
  have hml : c.maxLocals = 2 := hml
  have hown : s.vm.findClass "java/lang/StringBuilder" = some m.cls := hown
  have N0 := Fr.nil n0
  refine own_cast (efsa23 m o1 s1) ?_
  show oG p e below _ s₁ (mkF m 0 #[.val (.ref o1), .val (.ref s1)] [])
  refine oS (fun t k => XS.aloadN X0.here hx rfl (hb hby dsa02_0) rfl rfl k) ?_
  refine oS (fun t k => XS.aloadN X0.here hx rfl (hb hby dsa02_1) rfl rfl k) ?_
  show oG p e below _ s₁ (mkF m 2 #[.val (.ref o1), .val (.ref s1)] [(.ref s1), (.ref o1)])
  refine own_callUp X0 hx hZ (y := (⟨"java/lang/AbstractStringBuilder", "append", "(Ljava/lang/String;)Ljava/lang/AbstractStringBuilder;"⟩ : MethodName)) (W := 0) (kc := 0) (ks := 0) hown (oW hw 108 rfl) (own_same (oW hw 129 rfl) rfl (oW hw 109 rfl) (by decide)) (oW hw 109 rfl) (oW hw 110 rfl) (by decide) (oW hw 112 rfl) (own_back (W := 0) (rm_ap23 l Z a0 hw [] o1 b1 s1 t1 kt kb CS c0 c1 c2 d0 d1 d2 d3 d4 d5 d6 d7 d8 d9 d10 d11 d12 d13 d14 d15 h0 n0 Z0 Es Vs Cs At E1 F1 C1 D1 B1 go gb hob hp SC hCS) hZ (oW hw 112 rfl) (oW hw 94 rfl) (by decide) (by decide)) (b := o1) E1 (g := (mkF m 2 #[.val (.ref o1), .val (.ref s1)] [(.ref s1), (.ref o1)])) rfl (by rw [hml]; rfl) (argsL := [(.ref s1)]) (rest := []) (lenOf pd_12 rfl) rfl (by show 2 * 0 + _ ≤ _; exact Nat.le_of_eq rfl) (hb hby dsa02_2) rfl e0 (by decide) (by decide) (fun v2 T2 L2 X2 hQ2 => ?_)
  obtain ⟨rfl, M2, q1, q2, q3, q4, q5, q6⟩ := hQ2
  show oG p e below _ T2 (mkF m 5 #[.val (.ref o1), .val (.ref s1)] [(.ref o1)])
  refine oS (fun t k => XS.pop X2.here hx rfl (hb hby dsa02_5) rfl rfl k) ?_
  show oG p e below _ T2 (mkF m 6 #[.val (.ref o1), .val (.ref s1)] [])
  refine oS (fun t k => XS.aloadN X2.here hx rfl (hb hby dsa02_6) rfl rfl k) ?_
  show oG p e below _ T2 (mkF m 7 #[.val (.ref o1), .val (.ref s1)] [(.ref o1)])
  refine own_retA X2 hx hlk hret rfl rfl (hb hby dsa02_7) ?_ (by decide) (by decide)
  exact ⟨rfl, Fr.app N0 M2, q1, q2, q3, q4, q5, q6⟩
theorem dcl2_0 : decode jdk_65_method_131_code 0 = .ok (.iload_n 1, 1) := by decide +kernel
theorem dcl2_1 : decode jdk_65_method_131_code 1 = .ok (.iload_n 0, 1) := by decide +kernel
theorem dcl2_2 : decode jdk_65_method_131_code 2 = .ok (.if_icmp .ge 35, 3) := by decide +kernel
theorem dcl2_5 : decode jdk_65_method_131_code 5 = .ok (.new 43, 3) := by decide +kernel
theorem dcl2_8 : decode jdk_65_method_131_code 8 = .ok (.dup, 1) := by decide +kernel
theorem dcl2_9 : decode jdk_65_method_131_code 9 = .ok (.new 45, 3) := by decide +kernel
theorem dcl2_12 : decode jdk_65_method_131_code 12 = .ok (.dup, 1) := by decide +kernel
theorem dcl2_13 : decode jdk_65_method_131_code 13 = .ok (.invokespecial 47, 3) := by decide +kernel
theorem dcl2_16 : decode jdk_65_method_131_code 16 = .ok (.iload_n 0, 1) := by decide +kernel
theorem dcl2_17 : decode jdk_65_method_131_code 17 = .ok (.invokevirtual 54, 3) := by decide +kernel
theorem dcl2_20 : decode jdk_65_method_131_code 20 = .ok (.ldc_w 337, 3) := by decide +kernel
theorem dcl2_23 : decode jdk_65_method_131_code 23 = .ok (.invokevirtual 50, 3) := by decide +kernel
theorem dcl2_26 : decode jdk_65_method_131_code 26 = .ok (.iload_n 1, 1) := by decide +kernel
theorem dcl2_27 : decode jdk_65_method_131_code 27 = .ok (.invokevirtual 54, 3) := by decide +kernel
theorem dcl2_30 : decode jdk_65_method_131_code 30 = .ok (.invokevirtual 61, 3) := by decide +kernel
theorem dcl2_33 : decode jdk_65_method_131_code 33 = .ok (.invokespecial 65, 3) := by decide +kernel
theorem dcl2_36 : decode jdk_65_method_131_code 36 = .ok (.athrow, 1) := by decide +kernel
theorem dcl2_37 : decode jdk_65_method_131_code 37 = .ok (.return_, 1) := by decide +kernel
theorem pn_6 : plainName "java/util/Arrays" = true := by first | (simp [plainName, overriddenIn]; done) | decide +kernel
theorem efcl2 (m : MethodId) (x0 : Int32) (x1 : Int32) : entryFrame m #[(.int x0), (.int x1)] 2 = mkF m 0 #[.val (.int x0), .val (.int x1)] [] := by first | (simp [entryFrame, mkF, argsToLocals, Value.category]; done) | rfl
set_option maxRecDepth 65536 in
set_option maxHeartbeats 40000000 in
theorem rm_cl2 (l : Launch) (Z : State) (a0 : Array Value) (hw : ∀ d ∈ tables_1, d.before a0 Z = true) (ws : List Jvm.Cond) (h0 : Heap) (n0 : Nat) (Z0 : n0 ≤ h0.size) :
    own_Met l Z ws (⟨"java/util/Arrays", "checkLength", "(II)V"⟩ : MethodName) jdk_65_method_131_code 2 none ({ frames := 0, cells := 0, slots := 0, locals := 0 } : Room) #[(.int 0), (.int 2)] h0 (fun v h L => v = none ∧ Fr n0 L ∧ h = h0) := by
  refine own_body (plainFor_of_name pn_6) ?_
  intro p e s m below meth c s₁ hx hby hml hret hlk hown hnm hZ X0 e0
  have hml : c.maxLocals = 2 := hml
  have hown : s.vm.findClass "java/util/Arrays" = some m.cls := hown
  have N0 := Fr.nil n0
  refine own_cast (efcl2 m (0 : Int32) (2 : Int32)) ?_
  show oG p e below _ s₁ (mkF m 0 #[.val (.int 0), .val (.int 2)] [])
  refine oS (fun t k => XS.iloadN X0.here hx rfl (hb hby dcl2_0) rfl  k) ?_
  refine oS (fun t k => XS.iloadN X0.here hx rfl (hb hby dcl2_1) rfl  k) ?_
  show oG p e below _ s₁ (mkF m 2 #[.val (.int 0), .val (.int 2)] [(.int 0), (.int 2)])
  refine oS (fun t k => XS.icmpYes X0.here hx rfl (pc0 := 2) (pc' := 37) rfl (hb hby dcl2_2) rfl (flt (by decide : ¬ (2 : Int32) < 0)).2.1 (by decide) (by decide) k) ?_
  show oG p e below _ s₁ (mkF m 37 #[.val (.int 0), .val (.int 2)] [])
  refine own_retV X0 hx hlk hret (hb hby dcl2_37) ?_ (by decide) (by decide)
  rw [e0]
  exact ⟨rfl, N0, rfl⟩
theorem dcb2_0 : decode jdk_65_method_133_code 0 = .ok (.iload_n 1, 1) := by decide +kernel
theorem dcb2_1 : decode jdk_65_method_133_code 1 = .ok (.iload_n 2, 1) := by decide +kernel
theorem dcb2_2 : decode jdk_65_method_133_code 2 = .ok (.invokestatic 343, 3) := by decide +kernel
theorem dcb2_5 : decode jdk_65_method_133_code 5 = .ok (.iload_n 2, 1) := by decide +kernel
theorem dcb2_6 : decode jdk_65_method_133_code 6 = .ok (.iload_n 1, 1) := by decide +kernel
theorem dcb2_7 : decode jdk_65_method_133_code 7 = .ok (.isub, 1) := by decide +kernel
theorem dcb2_8 : decode jdk_65_method_133_code 8 = .ok (.istore_n 3, 1) := by decide +kernel
theorem dcb2_9 : decode jdk_65_method_133_code 9 = .ok (.iload_n 3, 1) := by decide +kernel
theorem dcb2_10 : decode jdk_65_method_133_code 10 = .ok (.newarray .byte, 2) := by decide +kernel
theorem dcb2_12 : decode jdk_65_method_133_code 12 = .ok (.astore 4, 2) := by decide +kernel
theorem dcb2_14 : decode jdk_65_method_133_code 14 = .ok (.aload_n 0, 1) := by decide +kernel
theorem dcb2_15 : decode jdk_65_method_133_code 15 = .ok (.iload_n 1, 1) := by decide +kernel
theorem dcb2_16 : decode jdk_65_method_133_code 16 = .ok (.aload 4, 2) := by decide +kernel
theorem dcb2_18 : decode jdk_65_method_133_code 18 = .ok (.iconst 0, 1) := by decide +kernel
theorem dcb2_19 : decode jdk_65_method_133_code 19 = .ok (.aload_n 0, 1) := by decide +kernel
theorem dcb2_20 : decode jdk_65_method_133_code 20 = .ok (.arraylength, 1) := by decide +kernel
theorem dcb2_21 : decode jdk_65_method_133_code 21 = .ok (.iload_n 1, 1) := by decide +kernel
theorem dcb2_22 : decode jdk_65_method_133_code 22 = .ok (.isub, 1) := by decide +kernel
theorem dcb2_23 : decode jdk_65_method_133_code 23 = .ok (.iload_n 3, 1) := by decide +kernel
theorem dcb2_24 : decode jdk_65_method_133_code 24 = .ok (.invokestatic 304, 3) := by decide +kernel
theorem dcb2_27 : decode jdk_65_method_133_code 27 = .ok (.invokestatic 150, 3) := by decide +kernel
theorem dcb2_30 : decode jdk_65_method_133_code 30 = .ok (.aload 4, 2) := by decide +kernel
theorem dcb2_32 : decode jdk_65_method_133_code 32 = .ok (.areturn, 1) := by decide +kernel
theorem efcb2 (m : MethodId) (x0 : Addr) (x1 : Int32) (x2 : Int32) : entryFrame m #[(.ref x0), (.int x1), (.int x2)] 5 = mkF m 0 #[.val (.ref x0), .val (.int x1), .val (.int x2), .unset, .unset] [] := by first | (simp [entryFrame, mkF, argsToLocals, Value.category]; done) | rfl
theorem pd_13 : parseMethodDescriptor "(II)V" = some ⟨[.int, .int], none⟩ := by decide +kernel
theorem pd_14 : parseMethodDescriptor "(II)I" = some ⟨[.int, .int], some .int⟩ := by decide +kernel
set_option maxRecDepth 65536 in
set_option maxHeartbeats 40000000 in
theorem rm_cb2 (l : Launch) (Z : State) (a0 : Array Value) (hw : ∀ d ∈ tables_1, d.before a0 Z = true) (ws : List Jvm.Cond) (b1 : Addr) (kb : ClassId) (d0 : Value) (d1 : Value) (d2 : Value) (d3 : Value) (d4 : Value) (d5 : Value) (d6 : Value) (d7 : Value) (d8 : Value) (d9 : Value) (d10 : Value) (d11 : Value) (d12 : Value) (d13 : Value) (d14 : Value) (d15 : Value) (h0 : Heap) (n0 : Nat) (Z0 : n0 ≤ h0.size) (B1 : Arv Z h0 b1 kb .byte (16 : Int32) [d0, d1, d2, d3, d4, d5, d6, d7, d8, d9, d10, d11, d12, d13, d14, d15] (.int 0)) :
    own_Met l Z ws (⟨"java/util/Arrays", "copyOfRangeByte", "([BII)[B"⟩ : MethodName) jdk_65_method_133_code 5 (some (.array .byte)) ({ frames := 1, cells := 1, slots := 2, locals := 24 } : Room) #[(.ref b1), (.int 0), (.int 2)] h0 (fun v h L => ∃ kc, v = some (.ref h0.size) ∧ Fr n0 L ∧ Keep h0 h [] ∧ Arv Z h h0.size kc .byte (2 : Int32) [d0, d1] (.int 0)) := by
  refine own_body (plainFor_of_name pn_6) ?_
  intro p e s m below meth c s₁ hx hby hml hret hlk hown hnm hZ X0 e0
  have hml : c.maxLocals = 5 := hml
  have hown : s.vm.findClass "java/util/Arrays" = some m.cls := hown
  have N0 := Fr.nil n0
  refine own_cast (efcb2 m b1 (0 : Int32) (2 : Int32)) ?_
  show oG p e below _ s₁ (mkF m 0 #[.val (.ref b1), .val (.int 0), .val (.int 2), .unset, .unset] [])
  refine oS (fun t k => XS.iloadN X0.here hx rfl (hb hby dcb2_0) rfl  k) ?_
  refine oS (fun t k => XS.iloadN X0.here hx rfl (hb hby dcb2_1) rfl  k) ?_
  show oG p e below _ s₁ (mkF m 2 #[.val (.ref b1), .val (.int 0), .val (.int 2), .unset, .unset] [(.int 2), (.int 0)])
  refine own_callS X0 hx hZ (y := (⟨"java/util/Arrays", "checkLength", "(II)V"⟩ : MethodName)) (W := 0) (kc := 0) (ks := 0) hown (oW hw 188 rfl) (oW hw 189 rfl) (oW hw 183 rfl) (oW hw 190 rfl) (own_back (W := 0) (rm_cl2 l Z a0 hw [] h0 n0 Z0) hZ (oW hw 190 rfl) (oW hw 183 rfl) (by decide) (by decide)) (by decide) (g := (mkF m 2 #[.val (.ref b1), .val (.int 0), .val (.int 2), .unset, .unset] [(.int 2), (.int 0)])) rfl (by rw [hml]; rfl) (argsL := [(.int 0), (.int 2)]) (rest := []) (lenOf pd_13 rfl) rfl (by show 2 * 0 + _ ≤ _; exact Nat.le_of_eq rfl) (hb hby dcb2_2) rfl e0 (by decide) (by decide) (fun v2 T2 L2 X2 hQ2 => ?_)
  obtain ⟨rfl, M2, e2⟩ := hQ2
  have N2 := Fr.app N0 M2
  show oG p e below _ T2 (mkF m 5 #[.val (.ref b1), .val (.int 0), .val (.int 2), .unset, .unset] [])
  refine oS (fun t k => XS.iloadN X2.here hx rfl (hb hby dcb2_5) rfl  k) ?_
  refine oS (fun t k => XS.iloadN X2.here hx rfl (hb hby dcb2_6) rfl  k) ?_
  refine oS (fun t k => XS.isub X2.here hx rfl (hb hby dcb2_7) rfl k) ?_
  show oG p e below _ T2 (mkF m 8 #[.val (.ref b1), .val (.int 0), .val (.int 2), .unset, .unset] [(.int ((2 : Int32) - (0 : Int32)))])
  show oG p e below _ T2 (mkF m 8 #[.val (.ref b1), .val (.int 0), .val (.int 2), .unset, .unset] [(.int 2)])
  refine oS (fun t k => XS.istoreN X2.here hx rfl (hb hby dcb2_8) rfl (l' := #[.val (.ref b1), .val (.int 0), .val (.int 2), .val (.int 2), .unset]) rfl k) ?_
  show oG p e below _ T2 (mkF m 9 #[.val (.ref b1), .val (.int 0), .val (.int 2), .val (.int 2), .unset] [])
  refine oS (fun t k => XS.iloadN X2.here hx rfl (hb hby dcb2_9) rfl  k) ?_
  show oG p e below _ T2 (mkF m 10 #[.val (.ref b1), .val (.int 0), .val (.int 2), .val (.int 2), .unset] [(.int 2)])
  obtain ⟨T10, h10, k10, X10, e10, E10, A10, st10⟩ := newP X2 hx hZ (oW hw 19 rfl) e2 (g := (mkF m 10 #[.val (.ref b1), .val (.int 0), .val (.int 2), .val (.int 2), .unset] [(.int 2)])) rfl (hb hby dcb2_10) rfl (by decide) (cap := 2) (by decide) (by decide) (by decide) (by decide)
  obtain ⟨b10, g10⟩ : ∃ z, z = h0.size := ⟨_, rfl⟩
  rw [← g10] at A10 st10
  have V10 : Arv Z h10 b10 k10 .byte (2 : Int32) [(.int 0), (.int 0)] (.int 0) := (Arv.new A10 (by decide)).pad (pad_rep [] (.int 0) 2)
  refine oS st10 ?_
  show oG p e below _ T10 (mkF m 12 #[.val (.ref b1), .val (.int 0), .val (.int 2), .val (.int 2), .unset] [(.ref b10)])
  subst g10
  have Z10 : n0 ≤ h10.size := Nat.le_trans Z0 E10.1
  have B10 := B1.ext E10
  show oG p e below _ T10 (mkF m 12 #[.val (.ref b1), .val (.int 0), .val (.int 2), .val (.int 2), .unset] [(.ref h0.size)])
  refine oS (fun t k => XS.astore X10.here hx rfl (hb hby dcb2_12) rfl rfl (l' := #[.val (.ref b1), .val (.int 0), .val (.int 2), .val (.int 2), .val (.ref h0.size)]) rfl k) ?_
  show oG p e below _ T10 (mkF m 14 #[.val (.ref b1), .val (.int 0), .val (.int 2), .val (.int 2), .val (.ref h0.size)] [])
  refine oS (fun t k => XS.aloadN X10.here hx rfl (hb hby dcb2_14) rfl rfl k) ?_
  refine oS (fun t k => XS.iloadN X10.here hx rfl (hb hby dcb2_15) rfl  k) ?_
  refine oS (fun t k => XS.aload X10.here hx rfl (hb hby dcb2_16) rfl rfl k) ?_
  refine oS (fun t k => XS.iconst X10.here hx rfl (hb hby dcb2_18) k) ?_
  refine oS (fun t k => XS.aloadN X10.here hx rfl (hb hby dcb2_19) rfl rfl k) ?_
  show oG p e below _ T10 (mkF m 20 #[.val (.ref b1), .val (.int 0), .val (.int 2), .val (.int 2), .val (.ref h0.size)] [(.ref b1), (.int 0), (.ref h0.size), (.int 0), (.ref b1)])
  obtain ⟨cl20, Ar20, -, S20, M20, -, -⟩ := id B10
  refine oS (X10.arraylength hx (by rw [e10]; exact Ar20.1) (State.isArrayOf_alike hZ.alike Ar20.2.1) (g := (mkF m 20 #[.val (.ref b1), .val (.int 0), .val (.int 2), .val (.int 2), .val (.ref h0.size)] [(.ref b1), (.int 0), (.ref h0.size), (.int 0), (.ref b1)])) rfl rfl (hb hby dcb2_20)) ?_
  rw [len_of S20 M20]
  show oG p e below _ T10 (mkF m 21 #[.val (.ref b1), .val (.int 0), .val (.int 2), .val (.int 2), .val (.ref h0.size)] [(.int 16), (.int 0), (.ref h0.size), (.int 0), (.ref b1)])
  refine oS (fun t k => XS.iloadN X10.here hx rfl (hb hby dcb2_21) rfl  k) ?_
  refine oS (fun t k => XS.isub X10.here hx rfl (hb hby dcb2_22) rfl k) ?_
  show oG p e below _ T10 (mkF m 23 #[.val (.ref b1), .val (.int 0), .val (.int 2), .val (.int 2), .val (.ref h0.size)] [(.int ((16 : Int32) - (0 : Int32))), (.int 0), (.ref h0.size), (.int 0), (.ref b1)])
  show oG p e below _ T10 (mkF m 23 #[.val (.ref b1), .val (.int 0), .val (.int 2), .val (.int 2), .val (.ref h0.size)] [(.int 16), (.int 0), (.ref h0.size), (.int 0), (.ref b1)])
  refine oS (fun t k => XS.iloadN X10.here hx rfl (hb hby dcb2_23) rfl  k) ?_
  show oG p e below _ T10 (mkF m 24 #[.val (.ref b1), .val (.int 0), .val (.int 2), .val (.int 2), .val (.ref h0.size)] [(.int 2), (.int 16), (.int 0), (.ref h0.size), (.int 0), (.ref b1)])
  refine own_callS X10 hx hZ (y := (⟨"java/lang/Math", "min", "(II)I"⟩ : MethodName)) (W := 4) (kc := 0) (ks := 0) hown (oW hw 191 rfl) (oW hw 192 rfl) (oW hw 193 rfl) (oW hw 194 rfl) (own_back (W := 4) (rm_mi l Z a0 hw [] (16 : Int32) (2 : Int32) h10 n0 Z10) hZ (oW hw 194 rfl) (oW hw 193 rfl) (by decide) (by decide)) (by decide) (g := (mkF m 24 #[.val (.ref b1), .val (.int 0), .val (.int 2), .val (.int 2), .val (.ref h0.size)] [(.int 2), (.int 16), (.int 0), (.ref h0.size), (.int 0), (.ref b1)])) rfl (by rw [hml]; rfl) (argsL := [(.int 16), (.int 2)]) (rest := [(.int 0), (.ref h0.size), (.int 0), (.ref b1)]) (lenOf pd_14 rfl) rfl (by show 2 * 0 + _ ≤ _; exact Nat.le_of_eq rfl) (hb hby dcb2_24) rfl e10 (by decide) (by decide) (fun v24 T24 L24 X24 hQ24 => ?_)
  obtain ⟨rfl, M24, e24⟩ := hQ24
  rw [(by decide : (if (2 : Int32) < 16 then (2 : Int32) else 16) = 2)]
  have N24 := Fr.app N2 M24
  show oG p e below _ T24 (mkF m 27 #[.val (.ref b1), .val (.int 0), .val (.int 2), .val (.int 2), .val (.ref h0.size)] [(.int 2), (.int 0), (.ref h0.size), (.int 0), (.ref b1)])
  obtain ⟨T27, h27, L27, X27, e27, N27, K27c, B27c, st27⟩ := cpA X24 hx hZ hown (oW hw 195 rfl) (oW hw 150 rfl) (oW hw 148 rfl) (oW hw 149 rfl) e24 B10 V10 (Or.inl ⟨rfl, rfl⟩) (by decide) (by decide) (by decide) (by decide) (by decide) rfl (Nat.le_of_ble_eq_true rfl) N24 Z0 (g := (mkF m 27 #[.val (.ref b1), .val (.int 0), .val (.int 2), .val (.int 2), .val (.ref h0.size)] [(.int 2), (.int 0), (.ref h0.size), (.int 0), (.ref b1)])) rfl (by rw [hml]; rfl) rfl (hb hby dcb2_27) (by decide) (W := 0) (by show 2 * 0 + _ ≤ _; exact Nat.le_of_eq rfl) (by decide)
  refine oS st27 ?_
  show oG p e below _ T27 (mkF m 30 #[.val (.ref b1), .val (.int 0), .val (.int 2), .val (.int 2), .val (.ref h0.size)] [])
  refine oS (fun t k => XS.aload X27.here hx rfl (hb hby dcb2_30) rfl rfl k) ?_
  show oG p e below _ T27 (mkF m 32 #[.val (.ref b1), .val (.int 0), .val (.int 2), .val (.int 2), .val (.ref h0.size)] [(.ref h0.size)])
  refine own_retA X27 hx hlk hret rfl rfl (hb hby dcb2_32) ?_ (by decide) (by decide)
  rw [e27]
  exact ⟨k10, rfl, N27, ((Keep.refl h0 []).ext E10).trans K27c (allS (Or.inr (Nat.le_refl _)) all0), B27c⟩
theorem dcr2_0 : decode jdk_65_method_132_code 0 = .ok (.iload_n 1, 1) := by decide +kernel
theorem dcr2_1 : decode jdk_65_method_132_code 1 = .ok (.ifCond .ne 9, 3) := by decide +kernel
theorem dcr2_4 : decode jdk_65_method_132_code 4 = .ok (.iload_n 2, 1) := by decide +kernel
theorem dcr2_5 : decode jdk_65_method_132_code 5 = .ok (.aload_n 0, 1) := by decide +kernel
theorem dcr2_6 : decode jdk_65_method_132_code 6 = .ok (.arraylength, 1) := by decide +kernel
theorem dcr2_7 : decode jdk_65_method_132_code 7 = .ok (.if_icmp .eq 10, 3) := by decide +kernel
theorem dcr2_10 : decode jdk_65_method_132_code 10 = .ok (.aload_n 0, 1) := by decide +kernel
theorem dcr2_11 : decode jdk_65_method_132_code 11 = .ok (.iload_n 1, 1) := by decide +kernel
theorem dcr2_12 : decode jdk_65_method_132_code 12 = .ok (.iload_n 2, 1) := by decide +kernel
theorem dcr2_13 : decode jdk_65_method_132_code 13 = .ok (.invokestatic 339, 3) := by decide +kernel
theorem dcr2_16 : decode jdk_65_method_132_code 16 = .ok (.areturn, 1) := by decide +kernel
theorem dcr2_17 : decode jdk_65_method_132_code 17 = .ok (.aload_n 0, 1) := by decide +kernel
theorem dcr2_18 : decode jdk_65_method_132_code 18 = .ok (.invokevirtual 310, 3) := by decide +kernel
theorem dcr2_21 : decode jdk_65_method_132_code 21 = .ok (.checkcast 311, 3) := by decide +kernel
theorem dcr2_24 : decode jdk_65_method_132_code 24 = .ok (.areturn, 1) := by decide +kernel
theorem efcr2 (m : MethodId) (x0 : Addr) (x1 : Int32) (x2 : Int32) : entryFrame m #[(.ref x0), (.int x1), (.int x2)] 3 = mkF m 0 #[.val (.ref x0), .val (.int x1), .val (.int x2)] [] := by first | (simp [entryFrame, mkF, argsToLocals, Value.category]; done) | rfl
theorem pd_15 : parseMethodDescriptor "([BII)[B" = some ⟨[(.array .byte), .int, .int], some (.array .byte)⟩ := by decide +kernel
set_option maxRecDepth 65536 in
set_option maxHeartbeats 40000000 in
theorem rm_cr2 (l : Launch) (Z : State) (a0 : Array Value) (hw : ∀ d ∈ tables_1, d.before a0 Z = true) (ws : List Jvm.Cond) (b1 : Addr) (kb : ClassId) (d0 : Value) (d1 : Value) (d2 : Value) (d3 : Value) (d4 : Value) (d5 : Value) (d6 : Value) (d7 : Value) (d8 : Value) (d9 : Value) (d10 : Value) (d11 : Value) (d12 : Value) (d13 : Value) (d14 : Value) (d15 : Value) (h0 : Heap) (n0 : Nat) (Z0 : n0 ≤ h0.size) (B1 : Arv Z h0 b1 kb .byte (16 : Int32) [d0, d1, d2, d3, d4, d5, d6, d7, d8, d9, d10, d11, d12, d13, d14, d15] (.int 0)) :
    own_Met l Z ws (⟨"java/util/Arrays", "copyOfRange", "([BII)[B"⟩ : MethodName) jdk_65_method_132_code 3 (some (.array .byte)) ({ frames := 2, cells := 1, slots := 2, locals := 40 } : Room) #[(.ref b1), (.int 0), (.int 2)] h0 (fun v h L => ∃ kc, v = some (.ref h0.size) ∧ Fr n0 L ∧ Keep h0 h [] ∧ Arv Z h h0.size kc .byte (2 : Int32) [d0, d1] (.int 0)) := by
  refine own_body (plainFor_of_name pn_6) ?_
  intro p e s m below meth c s₁ hx hby hml hret hlk hown hnm hZ X0 e0
  have hml : c.maxLocals = 3 := hml
  have hown : s.vm.findClass "java/util/Arrays" = some m.cls := hown
  have N0 := Fr.nil n0
  refine own_cast (efcr2 m b1 (0 : Int32) (2 : Int32)) ?_
  show oG p e below _ s₁ (mkF m 0 #[.val (.ref b1), .val (.int 0), .val (.int 2)] [])
  refine oS (fun t k => XS.iloadN X0.here hx rfl (hb hby dcr2_0) rfl  k) ?_
  show oG p e below _ s₁ (mkF m 1 #[.val (.ref b1), .val (.int 0), .val (.int 2)] [(.int 0)])
  refine oS (fun t k => XS.ifNo X0.here hx rfl (hb hby dcr2_1) rfl ((if0 _ _).trans (teq (rfl : (0 : Int32) = 0)).2) k) ?_
  show oG p e below _ s₁ (mkF m 4 #[.val (.ref b1), .val (.int 0), .val (.int 2)] [])
  refine oS (fun t k => XS.iloadN X0.here hx rfl (hb hby dcr2_4) rfl  k) ?_
  refine oS (fun t k => XS.aloadN X0.here hx rfl (hb hby dcr2_5) rfl rfl k) ?_
  show oG p e below _ s₁ (mkF m 6 #[.val (.ref b1), .val (.int 0), .val (.int 2)] [(.ref b1), (.int 2)])
  obtain ⟨cl6, Ar6, -, S6, M6, -, -⟩ := id B1
  refine oS (X0.arraylength hx (by rw [e0]; exact Ar6.1) (State.isArrayOf_alike hZ.alike Ar6.2.1) (g := (mkF m 6 #[.val (.ref b1), .val (.int 0), .val (.int 2)] [(.ref b1), (.int 2)])) rfl rfl (hb hby dcr2_6)) ?_
  rw [len_of S6 M6]
  show oG p e below _ s₁ (mkF m 7 #[.val (.ref b1), .val (.int 0), .val (.int 2)] [(.int 16), (.int 2)])
  refine oS (fun t k => XS.icmpNo X0.here hx rfl (hb hby dcr2_7) rfl (feq (by decide : ¬ (2 : Int32) = 16)).1 k) ?_
  show oG p e below _ s₁ (mkF m 10 #[.val (.ref b1), .val (.int 0), .val (.int 2)] [])
  refine oS (fun t k => XS.aloadN X0.here hx rfl (hb hby dcr2_10) rfl rfl k) ?_
  refine oS (fun t k => XS.iloadN X0.here hx rfl (hb hby dcr2_11) rfl  k) ?_
  refine oS (fun t k => XS.iloadN X0.here hx rfl (hb hby dcr2_12) rfl  k) ?_
  show oG p e below _ s₁ (mkF m 13 #[.val (.ref b1), .val (.int 0), .val (.int 2)] [(.int 2), (.int 0), (.ref b1)])
  refine own_callS X0 hx hZ (y := (⟨"java/util/Arrays", "copyOfRangeByte", "([BII)[B"⟩ : MethodName)) (W := 0) (kc := 1) (ks := 2) hown (oW hw 185 rfl) (oW hw 186 rfl) (oW hw 183 rfl) (oW hw 187 rfl) (own_back (W := 0) (rm_cb2 l Z a0 hw [] b1 kb d0 d1 d2 d3 d4 d5 d6 d7 d8 d9 d10 d11 d12 d13 d14 d15 h0 n0 Z0 B1) hZ (oW hw 187 rfl) (oW hw 183 rfl) (by decide) (by decide)) (by decide) (g := (mkF m 13 #[.val (.ref b1), .val (.int 0), .val (.int 2)] [(.int 2), (.int 0), (.ref b1)])) rfl (by rw [hml]; rfl) (argsL := [(.ref b1), (.int 0), (.int 2)]) (rest := []) (lenOf pd_15 rfl) rfl (by show 2 * 0 + _ ≤ _; exact Nat.le_of_eq rfl) (hb hby dcr2_13) rfl e0 (by decide) (by decide) (fun v13 T13 L13 X13 hQ13 => ?_)
  obtain ⟨kc, rfl, M13, K13, B13⟩ := hQ13
  show oG p e below _ T13 (mkF m 16 #[.val (.ref b1), .val (.int 0), .val (.int 2)] [(.ref h0.size)])
  refine own_retA X13 hx hlk hret rfl rfl (hb hby dcr2_16) ?_ (by decide) (by decide)
  exact ⟨kc, rfl, Fr.app N0 M13, K13, B13⟩
theorem dsw2_0 : decode jdk_42_method_150_code 0 = .ok (.aload_n 0, 1) := by decide +kernel
theorem dsw2_1 : decode jdk_42_method_150_code 1 = .ok (.invokespecial 1, 3) := by decide +kernel
theorem dsw2_4 : decode jdk_42_method_150_code 4 = .ok (.aload_n 1, 1) := by decide +kernel
theorem dsw2_5 : decode jdk_42_method_150_code 5 = .ok (.invokevirtual 552, 3) := by decide +kernel
theorem dsw2_8 : decode jdk_42_method_150_code 8 = .ok (.astore_n 3, 1) := by decide +kernel
theorem dsw2_9 : decode jdk_42_method_150_code 9 = .ok (.aload_n 1, 1) := by decide +kernel
theorem dsw2_10 : decode jdk_42_method_150_code 10 = .ok (.invokevirtual 549, 3) := by decide +kernel
theorem dsw2_13 : decode jdk_42_method_150_code 13 = .ok (.istore 4, 2) := by decide +kernel
theorem dsw2_15 : decode jdk_42_method_150_code 15 = .ok (.aload_n 1, 1) := by decide +kernel
theorem dsw2_16 : decode jdk_42_method_150_code 16 = .ok (.invokevirtual 1047, 3) := by decide +kernel
theorem dsw2_19 : decode jdk_42_method_150_code 19 = .ok (.ifCond .eq 22, 3) := by decide +kernel
theorem dsw2_22 : decode jdk_42_method_150_code 22 = .ok (.aload_n 0, 1) := by decide +kernel
theorem dsw2_23 : decode jdk_42_method_150_code 23 = .ok (.iconst 0, 1) := by decide +kernel
theorem dsw2_24 : decode jdk_42_method_150_code 24 = .ok (.putfield 15, 3) := by decide +kernel
theorem dsw2_27 : decode jdk_42_method_150_code 27 = .ok (.aload_n 0, 1) := by decide +kernel
theorem dsw2_28 : decode jdk_42_method_150_code 28 = .ok (.aload_n 3, 1) := by decide +kernel
theorem dsw2_29 : decode jdk_42_method_150_code 29 = .ok (.iconst 0, 1) := by decide +kernel
theorem dsw2_30 : decode jdk_42_method_150_code 30 = .ok (.iload 4, 2) := by decide +kernel
theorem dsw2_32 : decode jdk_42_method_150_code 32 = .ok (.invokestatic 54, 3) := by decide +kernel
theorem dsw2_35 : decode jdk_42_method_150_code 35 = .ok (.putfield 9, 3) := by decide +kernel
theorem dsw2_38 : decode jdk_42_method_150_code 38 = .ok (.goto 59, 3) := by decide +kernel
theorem dsw2_41 : decode jdk_42_method_150_code 41 = .ok (.getstatic 38, 3) := by decide +kernel
theorem dsw2_44 : decode jdk_42_method_150_code 44 = .ok (.ifCond .eq 35, 3) := by decide +kernel
theorem dsw2_47 : decode jdk_42_method_150_code 47 = .ok (.aload_n 1, 1) := by decide +kernel
theorem dsw2_48 : decode jdk_42_method_150_code 48 = .ok (.getfield 1048, 3) := by decide +kernel
theorem dsw2_51 : decode jdk_42_method_150_code 51 = .ok (.ifCond .eq 28, 3) := by decide +kernel
theorem dsw2_54 : decode jdk_42_method_150_code 54 = .ok (.aload_n 0, 1) := by decide +kernel
theorem dsw2_55 : decode jdk_42_method_150_code 55 = .ok (.aload_n 3, 1) := by decide +kernel
theorem dsw2_56 : decode jdk_42_method_150_code 56 = .ok (.iconst 0, 1) := by decide +kernel
theorem dsw2_57 : decode jdk_42_method_150_code 57 = .ok (.iload 4, 2) := by decide +kernel
theorem dsw2_59 : decode jdk_42_method_150_code 59 = .ok (.invokestatic 1051, 3) := by decide +kernel
theorem dsw2_62 : decode jdk_42_method_150_code 62 = .ok (.putfield 9, 3) := by decide +kernel
theorem dsw2_65 : decode jdk_42_method_150_code 65 = .ok (.aload_n 0, 1) := by decide +kernel
theorem dsw2_66 : decode jdk_42_method_150_code 66 = .ok (.aload_n 0, 1) := by decide +kernel
theorem dsw2_67 : decode jdk_42_method_150_code 67 = .ok (.getfield 9, 3) := by decide +kernel
theorem dsw2_70 : decode jdk_42_method_150_code 70 = .ok (.iload 4, 2) := by decide +kernel
theorem dsw2_72 : decode jdk_42_method_150_code 72 = .ok (.invokestatic 47, 3) := by decide +kernel
theorem dsw2_75 : decode jdk_42_method_150_code 75 = .ok (.putfield 15, 3) := by decide +kernel
theorem dsw2_78 : decode jdk_42_method_150_code 78 = .ok (.return_, 1) := by decide +kernel
theorem dsw2_79 : decode jdk_42_method_150_code 79 = .ok (.aload_n 0, 1) := by decide +kernel
theorem dsw2_80 : decode jdk_42_method_150_code 80 = .ok (.iconst 1, 1) := by decide +kernel
theorem dsw2_81 : decode jdk_42_method_150_code 81 = .ok (.putfield 15, 3) := by decide +kernel
theorem dsw2_84 : decode jdk_42_method_150_code 84 = .ok (.aload_n 0, 1) := by decide +kernel
theorem dsw2_85 : decode jdk_42_method_150_code 85 = .ok (.aload_n 3, 1) := by decide +kernel
theorem dsw2_86 : decode jdk_42_method_150_code 86 = .ok (.iconst 0, 1) := by decide +kernel
theorem dsw2_87 : decode jdk_42_method_150_code 87 = .ok (.iload 4, 2) := by decide +kernel
theorem dsw2_89 : decode jdk_42_method_150_code 89 = .ok (.iconst 1, 1) := by decide +kernel
theorem dsw2_90 : decode jdk_42_method_150_code 90 = .ok (.ishl, 1) := by decide +kernel
theorem dsw2_91 : decode jdk_42_method_150_code 91 = .ok (.invokestatic 54, 3) := by decide +kernel
theorem dsw2_94 : decode jdk_42_method_150_code 94 = .ok (.putfield 9, 3) := by decide +kernel
theorem dsw2_97 : decode jdk_42_method_150_code 97 = .ok (.return_, 1) := by decide +kernel
theorem efsw2 (m : MethodId) (x0 : Addr) (x1 : Addr) : entryFrame m #[(.ref x0), (.ref x1), .null] 5 = mkF m 0 #[.val (.ref x0), .val (.ref x1), .val .null, .unset, .unset] [] := by first | (simp [entryFrame, mkF, argsToLocals, Value.category]; done) | rfl
theorem pd_16 : parseMethodDescriptor "()[B" = some ⟨[], some (.array .byte)⟩ := by decide +kernel
theorem pd_17 : parseMethodDescriptor "()Z" = some ⟨[], some .boolean⟩ := by decide +kernel
set_option maxRecDepth 65536 in
set_option maxHeartbeats 40000000 in
theorem rm_sw2 (l : Launch) (Z : State) (a0 : Array Value) (hw : ∀ d ∈ tables_1, d.before a0 Z = true) (ws : List Jvm.Cond) (x1 : Addr) (o1 : Addr) (b1 : Addr) (kb : ClassId) (v0 : Value) (c0v : Value) (CS : Int32) (d0 : Value) (d1 : Value) (d2 : Value) (d3 : Value) (d4 : Value) (d5 : Value) (d6 : Value) (d7 : Value) (d8 : Value) (d9 : Value) (d10 : Value) (d11 : Value) (d12 : Value) (d13 : Value) (d14 : Value) (d15 : Value) (h0 : Heap) (n0 : Nat) (Z0 : n0 ≤ h0.size) (Ex : Exa Z h0 x1 "java/lang/String") (Fx : Fld Z h0 x1 "java/lang/String" "value" "[B" v0) (Cx : Fld Z h0 x1 "java/lang/String" "coder" "B" c0v) (gx : n0 ≤ x1) (E1 : Exa Z h0 o1 "java/lang/StringBuilder") (F1 : Fld Z h0 o1 "java/lang/AbstractStringBuilder" "value" "[B" (.ref b1)) (C1 : Fld Z h0 o1 "java/lang/AbstractStringBuilder" "coder" "B" (.int 0)) (D1 : Fld Z h0 o1 "java/lang/AbstractStringBuilder" "count" "I" (.int 2)) (B1 : Arv Z h0 b1 kb .byte (16 : Int32) [d0, d1, d2, d3, d4, d5, d6, d7, d8, d9, d10, d11, d12, d13, d14, d15] (.int 0)) (hxo : o1 ≠ x1) (SC : Sta Z h0 "java/lang/String" "COMPACT_STRINGS" "Z" (.int CS)) (hCS : ¬ CS = 0) (hbx : b1 ≠ x1) :
    own_Met l Z ws (⟨"java/lang/String", "<init>", "(Ljava/lang/AbstractStringBuilder;Ljava/lang/Void;)V"⟩ : MethodName) jdk_42_method_150_code 5 none ({ frames := 3, cells := 1, slots := 2, locals := 60 } : Room) #[(.ref x1), (.ref o1), .null] h0 (fun v h L => v = none ∧ Fr n0 L ∧ Keep h0 h [x1] ∧ Exa Z h x1 "java/lang/String" ∧ Fld Z h x1 "java/lang/String" "coder" "B" (.int 0) ∧ ∃ (r : Addr) (kc : ClassId), h0.size ≤ r ∧ Fld Z h x1 "java/lang/String" "value" "[B" (.ref r) ∧ Arv Z h r kc .byte (2 : Int32) [d0, d1] (.int 0)) := by
  refine own_body (plainFor_of_name pn_2) ?_
  intro p e s m below meth c s₁ hx hby hml hret hlk hown hnm hZ X0 e0
  have hml : c.maxLocals = 5 := hml
  have hown : s.vm.findClass "java/lang/String" = some m.cls := hown
  have N0 := Fr.nil n0
  refine own_cast (efsw2 m x1 o1) ?_
  show oG p e below _ s₁ (mkF m 0 #[.val (.ref x1), .val (.ref o1), .val .null, .unset, .unset] [])
  refine oS (fun t k => XS.aloadN X0.here hx rfl (hb hby dsw2_0) rfl rfl k) ?_
  show oG p e below _ s₁ (mkF m 1 #[.val (.ref x1), .val (.ref o1), .val .null, .unset, .unset] [(.ref x1)])
  obtain ⟨T1, X1, e1, st1⟩ := initO X0 hx hZ hown (oW hw 15 rfl) (oW hw 16 rfl) (oW hw 17 rfl) e0 (g := (mkF m 1 #[.val (.ref x1), .val (.ref o1), .val .null, .unset, .unset] [(.ref x1)])) rfl (by rw [hml]; rfl) rfl (hb hby dsw2_1) (by decide) (W := 0) (by show 2 * 0 + _ ≤ _; exact Nat.le_of_eq rfl) (by decide)
  refine oS st1 ?_
  show oG p e below _ T1 (mkF m 4 #[.val (.ref x1), .val (.ref o1), .val .null, .unset, .unset] [])
  refine oS (fun t k => XS.aloadN X1.here hx rfl (hb hby dsw2_4) rfl rfl k) ?_
  show oG p e below _ T1 (mkF m 5 #[.val (.ref x1), .val (.ref o1), .val .null, .unset, .unset] [(.ref o1)])
  refine own_callVC X1 hx hZ (y := (⟨"java/lang/AbstractStringBuilder", "getValue", "()[B"⟩ : MethodName)) (z := (⟨"java/lang/AbstractStringBuilder", "getValue", "()[B"⟩ : MethodName)) (W := 0) (kc := 0) (ks := 0) hown (oW hw 163 rfl) (oW hw 164 rfl) (own_nf (oW hw 129 rfl) rfl hZ) (oW hw 166 rfl) (oW hw 165 rfl) (own_back (W := 0) (rm_gv l Z a0 hw [] o1 b1 h0 n0 Z0 F1) hZ (oW hw 167 rfl) (oW hw 94 rfl) (by decide) (by decide)) (by decide) (b := o1) E1 (g := (mkF m 5 #[.val (.ref x1), .val (.ref o1), .val .null, .unset, .unset] [(.ref o1)])) rfl (by rw [hml]; rfl) (argsL := []) (rest := []) (lenOf pd_16 rfl) rfl (by show 2 * 0 + _ ≤ _; exact Nat.le_of_eq rfl) (hb hby dsw2_5) rfl e1 (by decide) (by decide) (fun v5 T5 L5 X5 hQ5 => ?_)
  obtain ⟨rfl, M5, e5⟩ := hQ5
  show oG p e below _ T5 (mkF m 8 #[.val (.ref x1), .val (.ref o1), .val .null, .unset, .unset] [(.ref b1)])
  refine oS (fun t k => XS.astoreN X5.here hx rfl (hb hby dsw2_8) rfl rfl (l' := #[.val (.ref x1), .val (.ref o1), .val .null, .val (.ref b1), .unset]) rfl k) ?_
  show oG p e below _ T5 (mkF m 9 #[.val (.ref x1), .val (.ref o1), .val .null, .val (.ref b1), .unset] [])
  refine oS (fun t k => XS.aloadN X5.here hx rfl (hb hby dsw2_9) rfl rfl k) ?_
  show oG p e below _ T5 (mkF m 10 #[.val (.ref x1), .val (.ref o1), .val .null, .val (.ref b1), .unset] [(.ref o1)])
  refine own_callVC X5 hx hZ (y := (⟨"java/lang/AbstractStringBuilder", "length", "()I"⟩ : MethodName)) (z := (⟨"java/lang/StringBuilder", "length", "()I"⟩ : MethodName)) (W := 0) (kc := 0) (ks := 0) hown (oW hw 168 rfl) (oW hw 169 rfl) (own_nf (oW hw 129 rfl) rfl hZ) (oW hw 171 rfl) (oW hw 172 rfl) (own_back (W := 0) (rm_sl l Z a0 hw [] o1 (2 : Int32) h0 n0 Z0 E1 D1) hZ (oW hw 173 rfl) (oW hw 86 rfl) (by decide) (by decide)) (by decide) (b := o1) E1 (g := (mkF m 10 #[.val (.ref x1), .val (.ref o1), .val .null, .val (.ref b1), .unset] [(.ref o1)])) rfl (by rw [hml]; rfl) (argsL := []) (rest := []) (lenOf pd_8 rfl) rfl (by show 2 * 0 + _ ≤ _; exact Nat.le_of_eq rfl) (hb hby dsw2_10) rfl e5 (by decide) (by decide) (fun v10 T10 L10 X10 hQ10 => ?_)
  obtain ⟨rfl, M10, e10⟩ := hQ10
  show oG p e below _ T10 (mkF m 13 #[.val (.ref x1), .val (.ref o1), .val .null, .val (.ref b1), .unset] [(.int 2)])
  refine oS (fun t k => XS.istore X10.here hx rfl (hb hby dsw2_13) rfl (l' := #[.val (.ref x1), .val (.ref o1), .val .null, .val (.ref b1), .val (.int 2)]) rfl k) ?_
  show oG p e below _ T10 (mkF m 15 #[.val (.ref x1), .val (.ref o1), .val .null, .val (.ref b1), .val (.int 2)] [])
  refine oS (fun t k => XS.aloadN X10.here hx rfl (hb hby dsw2_15) rfl rfl k) ?_
  show oG p e below _ T10 (mkF m 16 #[.val (.ref x1), .val (.ref o1), .val .null, .val (.ref b1), .val (.int 2)] [(.ref o1)])
  refine own_callVC X10 hx hZ (y := (⟨"java/lang/AbstractStringBuilder", "isLatin1", "()Z"⟩ : MethodName)) (z := (⟨"java/lang/AbstractStringBuilder", "isLatin1", "()Z"⟩ : MethodName)) (W := 0) (kc := 0) (ks := 0) hown (oW hw 176 rfl) (oW hw 177 rfl) (own_nf (oW hw 129 rfl) rfl hZ) (oW hw 179 rfl) (oW hw 178 rfl) (own_back (W := 0) (rm_ab l Z a0 hw [] o1 CS h0 n0 Z0 C1 SC hCS) hZ (oW hw 180 rfl) (oW hw 94 rfl) (by decide) (by decide)) (by decide) (b := o1) E1 (g := (mkF m 16 #[.val (.ref x1), .val (.ref o1), .val .null, .val (.ref b1), .val (.int 2)] [(.ref o1)])) rfl (by rw [hml]; rfl) (argsL := []) (rest := []) (lenOf pd_17 rfl) rfl (by show 2 * 0 + _ ≤ _; exact Nat.le_of_eq rfl) (hb hby dsw2_16) rfl e10 (by decide) (by decide) (fun v16 T16 L16 X16 hQ16 => ?_)
  obtain ⟨rfl, M16, e16⟩ := hQ16
  have N16 := Fr.app (Fr.app (Fr.app N0 M5) M10) M16
  show oG p e below _ T16 (mkF m 19 #[.val (.ref x1), .val (.ref o1), .val .null, .val (.ref b1), .val (.int 2)] [(.int 1)])
  refine oS (fun t k => XS.ifNo X16.here hx rfl (hb hby dsw2_19) rfl ((if0 _ _).trans (feq (by decide : ¬ (1 : Int32) = 0)).1) k) ?_
  show oG p e below _ T16 (mkF m 22 #[.val (.ref x1), .val (.ref o1), .val .null, .val (.ref b1), .val (.int 2)] [])
  refine oS (fun t k => XS.aloadN X16.here hx rfl (hb hby dsw2_22) rfl rfl k) ?_
  refine oS (fun t k => XS.iconst X16.here hx rfl (hb hby dsw2_23) k) ?_
  show oG p e below _ T16 (mkF m 24 #[.val (.ref x1), .val (.ref o1), .val .null, .val (.ref b1), .val (.int 2)] [(.int 0), (.ref x1)])
  obtain ⟨T24, h24, X24, e24, W24, st24⟩ := putFN X16 hx hZ hown (oW hw 25 rfl) Via.refl e16 Cx Ex (Or.inr ⟨(oW hw 21 rfl), rfl, hnm⟩) (oW hw 5 rfl) (ty := .byte) (v' := (.int 0)) (by decide) rfl rfl (g := (mkF m 24 #[.val (.ref x1), .val (.ref o1), .val .null, .val (.ref b1), .val (.int 2)] [(.int 0), (.ref x1)])) rfl rfl (hb hby dsw2_24)
  refine oS st24 ?_
  have N24 := Fr.snoc X24 N16 gx
  have E24_o := Ex.wr W24
  have F24_value := Fx.other W24 (Or.inr (slot_ne (Or.inr (oW hw 20 rfl)) (Or.inr (oW hw 21 rfl)) (by decide) (t := (.array .byte)) (t' := .byte) (by decide) (by decide)))
  have F24_coder := Cx.same W24
  show oG p e below _ T24 (mkF m 27 #[.val (.ref x1), .val (.ref o1), .val .null, .val (.ref b1), .val (.int 2)] [])
  have Z24 : n0 ≤ h24.size := Nat.le_trans Z0 (Keep.of_wr W24).1
  have B24 := B1.other W24 hbx
  refine oS (fun t k => XS.aloadN X24.here hx rfl (hb hby dsw2_27) rfl rfl k) ?_
  refine oS (fun t k => XS.aloadN X24.here hx rfl (hb hby dsw2_28) rfl rfl k) ?_
  refine oS (fun t k => XS.iconst X24.here hx rfl (hb hby dsw2_29) k) ?_
  refine oS (fun t k => XS.iload X24.here hx rfl (hb hby dsw2_30) rfl  k) ?_
  show oG p e below _ T24 (mkF m 32 #[.val (.ref x1), .val (.ref o1), .val .null, .val (.ref b1), .val (.int 2)] [(.int 2), (.int 0), (.ref b1), (.ref x1)])
  refine own_callS X24 hx hZ (y := (⟨"java/util/Arrays", "copyOfRange", "([BII)[B"⟩ : MethodName)) (W := 1) (kc := 1) (ks := 2) hown (oW hw 181 rfl) (oW hw 182 rfl) (oW hw 183 rfl) (oW hw 184 rfl) (own_back (W := 1) (rm_cr2 l Z a0 hw [] b1 kb d0 d1 d2 d3 d4 d5 d6 d7 d8 d9 d10 d11 d12 d13 d14 d15 h24 n0 Z24 B24) hZ (oW hw 184 rfl) (oW hw 183 rfl) (by decide) (by decide)) (by decide) (g := (mkF m 32 #[.val (.ref x1), .val (.ref o1), .val .null, .val (.ref b1), .val (.int 2)] [(.int 2), (.int 0), (.ref b1), (.ref x1)])) rfl (by rw [hml]; rfl) (argsL := [(.ref b1), (.int 0), (.int 2)]) (rest := [(.ref x1)]) (lenOf pd_15 rfl) rfl (by show 2 * 0 + _ ≤ _; exact Nat.le_of_eq rfl) (hb hby dsw2_32) rfl e24 (by decide) (by decide) (fun v32 T32 L32 X32 hQ32 => ?_)
  obtain ⟨kc, rfl, M32, K32, B32⟩ := hQ32
  have N32 := Fr.app N24 M32
  have nr : h24.size ≠ x1 := Nat.ne_of_gt E24_o.lt
  show oG p e below _ T32 (mkF m 35 #[.val (.ref x1), .val (.ref o1), .val .null, .val (.ref b1), .val (.int 2)] [(.ref h24.size), (.ref x1)])
  obtain ⟨T35, h35, X35, e35, W35, st35⟩ := putF X32 hx hZ hown (host := "") (Or.inl (oW hw 24 rfl)) Via.refl rfl (F24_value.keep K32 nin0) (E24_o.keep K32) (Or.inr ⟨(oW hw 20 rfl), rfl, hnm⟩) (oW hw 5 rfl) (ty := (.array .byte)) (by decide) rfl rfl (g := (mkF m 35 #[.val (.ref x1), .val (.ref o1), .val .null, .val (.ref b1), .val (.int 2)] [(.ref h24.size), (.ref x1)])) rfl rfl (hb hby dsw2_35)
  refine oS st35 ?_
  have N35 := Fr.snoc X35 N32 gx
  have E35_o := (E24_o.keep K32).wr W35
  have F35_value := (F24_value.keep K32 nin0).same W35
  have F35_coder := (F24_coder.keep K32 nin0).other W35 (Or.inr (slot_ne (Or.inr (oW hw 21 rfl)) (Or.inr (oW hw 20 rfl)) (by decide) (t := .byte) (t' := (.array .byte)) (by decide) (by decide)))
  show oG p e below _ T35 (mkF m 38 #[.val (.ref x1), .val (.ref o1), .val .null, .val (.ref b1), .val (.int 2)] [])
  have B35 := B32.other W35 nr
  refine oS (fun t k => XS.goto X35.here hx rfl (pc0 := 38) (pc' := 97) rfl (hb hby dsw2_38) (by decide) (by decide) k) ?_
  show oG p e below _ T35 (mkF m 97 #[.val (.ref x1), .val (.ref o1), .val .null, .val (.ref b1), .val (.int 2)] [])
  refine own_retV X35 hx hlk hret (hb hby dsw2_97) ?_ (by decide) (by decide)
  rw [e35]
  exact ⟨rfl, N35, ((((Keep.refl h0 [x1]).wr W24 (Or.inl (List.mem_of_getElem? (i := 0) rfl))).trans K32 all0).wr W35 (Or.inl (List.mem_of_getElem? (i := 0) rfl))), E35_o, F35_coder, h24.size, kc, (Keep.of_wr W24).1, F35_value, B35⟩
theorem dsx2_0 : decode jdk_42_method_53_code 0 = .ok (.aload_n 0, 1) := by decide +kernel
theorem dsx2_1 : decode jdk_42_method_53_code 1 = .ok (.aload_n 1, 1) := by decide +kernel
theorem dsx2_2 : decode jdk_42_method_53_code 2 = .ok (.aconst_null, 1) := by decide +kernel
theorem dsx2_3 : decode jdk_42_method_53_code 3 = .ok (.invokespecial 489, 3) := by decide +kernel
theorem dsx2_6 : decode jdk_42_method_53_code 6 = .ok (.return_, 1) := by decide +kernel
theorem efsx2 (m : MethodId) (x0 : Addr) (x1 : Addr) : entryFrame m #[(.ref x0), (.ref x1)] 2 = mkF m 0 #[.val (.ref x0), .val (.ref x1)] [] := by first | (simp [entryFrame, mkF, argsToLocals, Value.category]; done) | rfl
theorem pd_18 : parseMethodDescriptor "(Ljava/lang/AbstractStringBuilder;Ljava/lang/Void;)V" = some ⟨[(.object "java/lang/AbstractStringBuilder"), (.object "java/lang/Void")], none⟩ := by decide +kernel
set_option maxRecDepth 65536 in
set_option maxHeartbeats 40000000 in
theorem rm_sx2 (l : Launch) (Z : State) (a0 : Array Value) (hw : ∀ d ∈ tables_1, d.before a0 Z = true) (ws : List Jvm.Cond) (x1 : Addr) (o1 : Addr) (b1 : Addr) (kb : ClassId) (v0 : Value) (c0v : Value) (CS : Int32) (d0 : Value) (d1 : Value) (d2 : Value) (d3 : Value) (d4 : Value) (d5 : Value) (d6 : Value) (d7 : Value) (d8 : Value) (d9 : Value) (d10 : Value) (d11 : Value) (d12 : Value) (d13 : Value) (d14 : Value) (d15 : Value) (h0 : Heap) (n0 : Nat) (Z0 : n0 ≤ h0.size) (Ex : Exa Z h0 x1 "java/lang/String") (Fx : Fld Z h0 x1 "java/lang/String" "value" "[B" v0) (Cx : Fld Z h0 x1 "java/lang/String" "coder" "B" c0v) (gx : n0 ≤ x1) (E1 : Exa Z h0 o1 "java/lang/StringBuilder") (F1 : Fld Z h0 o1 "java/lang/AbstractStringBuilder" "value" "[B" (.ref b1)) (C1 : Fld Z h0 o1 "java/lang/AbstractStringBuilder" "coder" "B" (.int 0)) (D1 : Fld Z h0 o1 "java/lang/AbstractStringBuilder" "count" "I" (.int 2)) (B1 : Arv Z h0 b1 kb .byte (16 : Int32) [d0, d1, d2, d3, d4, d5, d6, d7, d8, d9, d10, d11, d12, d13, d14, d15] (.int 0)) (hxo : o1 ≠ x1) (SC : Sta Z h0 "java/lang/String" "COMPACT_STRINGS" "Z" (.int CS)) (hCS : ¬ CS = 0) (hbx : b1 ≠ x1) :
    own_Met l Z ws (⟨"java/lang/String", "<init>", "(Ljava/lang/StringBuilder;)V"⟩ : MethodName) jdk_42_method_53_code 2 none ({ frames := 4, cells := 1, slots := 2, locals := 80 } : Room) #[(.ref x1), (.ref o1)] h0 (fun v h L => v = none ∧ Fr n0 L ∧ Keep h0 h [x1] ∧ Exa Z h x1 "java/lang/String" ∧ Fld Z h x1 "java/lang/String" "coder" "B" (.int 0) ∧ ∃ (r : Addr) (kc : ClassId), h0.size ≤ r ∧ Fld Z h x1 "java/lang/String" "value" "[B" (.ref r) ∧ Arv Z h r kc .byte (2 : Int32) [d0, d1] (.int 0)) := by
  refine own_body (plainFor_of_name pn_2) ?_
  intro p e s m below meth c s₁ hx hby hml hret hlk hown hnm hZ X0 e0
  have hml : c.maxLocals = 2 := hml
  have hown : s.vm.findClass "java/lang/String" = some m.cls := hown
  have N0 := Fr.nil n0
  refine own_cast (efsx2 m x1 o1) ?_
  show oG p e below _ s₁ (mkF m 0 #[.val (.ref x1), .val (.ref o1)] [])
  refine oS (fun t k => XS.aloadN X0.here hx rfl (hb hby dsx2_0) rfl rfl k) ?_
  refine oS (fun t k => XS.aloadN X0.here hx rfl (hb hby dsx2_1) rfl rfl k) ?_
  refine oS (fun t k => XS.aconstNull X0.here hx rfl (hb hby dsx2_2) k) ?_
  show oG p e below _ s₁ (mkF m 3 #[.val (.ref x1), .val (.ref o1)] [.null, (.ref o1), (.ref x1)])
  refine own_callI X0 hx hZ (y := (⟨"java/lang/String", "<init>", "(Ljava/lang/AbstractStringBuilder;Ljava/lang/Void;)V"⟩ : MethodName)) (W := 0) (kc := 1) (ks := 2) rfl hown (oW hw 160 rfl) (oW hw 161 rfl) (oW hw 162 rfl) (own_back (W := 0) (rm_sw2 l Z a0 hw [] x1 o1 b1 kb v0 c0v CS d0 d1 d2 d3 d4 d5 d6 d7 d8 d9 d10 d11 d12 d13 d14 d15 h0 n0 Z0 Ex Fx Cx gx E1 F1 C1 D1 B1 hxo SC hCS hbx) hZ (oW hw 162 rfl) (oW hw 6 rfl) (by decide) (by decide)) (by decide) (g := (mkF m 3 #[.val (.ref x1), .val (.ref o1)] [.null, (.ref o1), (.ref x1)])) rfl (by rw [hml]; rfl) (a := x1) (argsL := [(.ref o1), .null]) (rest := []) (lenOf pd_18 rfl) rfl (by show 2 * 0 + _ ≤ _; exact Nat.le_of_eq rfl) (hb hby dsx2_3) rfl e0 (by decide) (by decide) (fun v3 T3 L3 X3 hQ3 => ?_)
  obtain ⟨rfl, M3, q⟩ := hQ3
  show oG p e below _ T3 (mkF m 6 #[.val (.ref x1), .val (.ref o1)] [])
  refine own_retV X3 hx hlk hret (hb hby dsx2_6) ?_ (by decide) (by decide)
  exact ⟨rfl, Fr.app N0 M3, q⟩
theorem dts2_0 : decode jdk_67_method_42_code 0 = .ok (.new 18, 3) := by decide +kernel
theorem dts2_3 : decode jdk_67_method_42_code 3 = .ok (.dup, 1) := by decide +kernel
theorem dts2_4 : decode jdk_67_method_42_code 4 = .ok (.aload_n 0, 1) := by decide +kernel
theorem dts2_5 : decode jdk_67_method_42_code 5 = .ok (.invokespecial 137, 3) := by decide +kernel
theorem dts2_8 : decode jdk_67_method_42_code 8 = .ok (.areturn, 1) := by decide +kernel
theorem efts2 (m : MethodId) (x0 : Addr) : entryFrame m #[(.ref x0)] 1 = mkF m 0 #[.val (.ref x0)] [] := by first | (simp [entryFrame, mkF, argsToLocals, Value.category]; done) | rfl
theorem pd_19 : parseMethodDescriptor "(Ljava/lang/StringBuilder;)V" = some ⟨[(.object "java/lang/StringBuilder")], none⟩ := by decide +kernel
set_option maxRecDepth 65536 in
set_option maxHeartbeats 40000000 in
theorem rm_ts2 (l : Launch) (Z : State) (a0 : Array Value) (hw : ∀ d ∈ tables_1, d.before a0 Z = true) (ws : List Jvm.Cond) (o1 : Addr) (b1 : Addr) (kb : ClassId) (CS : Int32) (d0 : Value) (d1 : Value) (d2 : Value) (d3 : Value) (d4 : Value) (d5 : Value) (d6 : Value) (d7 : Value) (d8 : Value) (d9 : Value) (d10 : Value) (d11 : Value) (d12 : Value) (d13 : Value) (d14 : Value) (d15 : Value) (h0 : Heap) (n0 : Nat) (Z0 : n0 ≤ h0.size) (E1 : Exa Z h0 o1 "java/lang/StringBuilder") (F1 : Fld Z h0 o1 "java/lang/AbstractStringBuilder" "value" "[B" (.ref b1)) (C1 : Fld Z h0 o1 "java/lang/AbstractStringBuilder" "coder" "B" (.int 0)) (D1 : Fld Z h0 o1 "java/lang/AbstractStringBuilder" "count" "I" (.int 2)) (B1 : Arv Z h0 b1 kb .byte (16 : Int32) [d0, d1, d2, d3, d4, d5, d6, d7, d8, d9, d10, d11, d12, d13, d14, d15] (.int 0)) (SC : Sta Z h0 "java/lang/String" "COMPACT_STRINGS" "Z" (.int CS)) (hCS : ¬ CS = 0) :
    own_Met l Z ws (⟨"java/lang/StringBuilder", "toString", "()Ljava/lang/String;"⟩ : MethodName) jdk_67_method_42_code 1 (some (.object "java/lang/String")) ({ frames := 5, cells := 2, slots := 6, locals := 100 } : Room) #[(.ref o1)] h0 (fun v h L => ∃ (x r : Addr) (kc : ClassId), v = some (.ref x) ∧ Fr n0 L ∧ Keep h0 h [] ∧ h0.size ≤ x ∧ Exa Z h x "java/lang/String" ∧ Fld Z h x "java/lang/String" "coder" "B" (.int 0) ∧ Fld Z h x "java/lang/String" "value" "[B" (.ref r) ∧ Arv Z h r kc .byte (2 : Int32) [d0, d1] (.int 0)) := by
  refine own_body (plainFor_of_name pn_5) ?_
  intro p e s m below meth c s₁ hx hby hml hret hlk hown hnm hZ X0 e0
  have hml : c.maxLocals = 1 := hml
  have hown : s.vm.findClass "java/lang/StringBuilder" = some m.cls := hown
  have N0 := Fr.nil n0
  refine own_cast (efts2 m o1) ?_
  show oG p e below _ s₁ (mkF m 0 #[.val (.ref o1)] [])
  obtain ⟨Tq, hq, Xq, eq, Eq, Aq, Dq, -, stq⟩ := newO X0 hx hZ hown (oW hw 156 rfl) (oW hw 5 rfl) (oW hw 6 rfl) e0 (g := (mkF m 0 #[.val (.ref o1)] [])) rfl (hb hby dts2_0) (by decide) (by decide)
  obtain ⟨bq, gq⟩ : ∃ z, z = h0.size := ⟨_, rfl⟩
  rw [← gq] at Aq Dq stq
  have Fq_value : Fld Z hq bq "java/lang/String" "value" "[B" .null := Dq (Or.inr (oW hw 20 rfl)) (ty := (.array .byte)) (by decide)
  have Fq_coder : Fld Z hq bq "java/lang/String" "coder" "B" (.int 0) := Dq (Or.inr (oW hw 21 rfl)) (ty := .byte) (by decide)
  refine oS stq ?_
  show oG p e below _ Tq (mkF m 3 #[.val (.ref o1)] [(.ref bq)])
  have Zq : n0 ≤ hq.size := Nat.le_trans Z0 Eq.1
  have gx : n0 ≤ bq := Nat.le_trans Z0 (Nat.le_of_eq gq.symm)
  have ho : o1 ≠ bq := Nat.ne_of_lt (Nat.lt_of_lt_of_le E1.lt (Nat.le_of_eq gq.symm))
  have hbq : b1 ≠ bq := Nat.ne_of_lt (Nat.lt_of_lt_of_le B1.lt (Nat.le_of_eq gq.symm))
  refine oS (fun t k => XS.dup Xq.here hx rfl (hb hby dts2_3) rfl rfl k) ?_
  refine oS (fun t k => XS.aloadN Xq.here hx rfl (hb hby dts2_4) rfl rfl k) ?_
  show oG p e below _ Tq (mkF m 5 #[.val (.ref o1)] [(.ref o1), (.ref bq), (.ref bq)])
  refine own_callI Xq hx hZ (y := (⟨"java/lang/String", "<init>", "(Ljava/lang/StringBuilder;)V"⟩ : MethodName)) (W := 1) (kc := 1) (ks := 2) rfl hown (oW hw 157 rfl) (oW hw 158 rfl) (oW hw 159 rfl) (own_back (W := 1) (rm_sx2 l Z a0 hw [] bq o1 b1 kb _ _ CS d0 d1 d2 d3 d4 d5 d6 d7 d8 d9 d10 d11 d12 d13 d14 d15 hq n0 Zq Aq Fq_value Fq_coder gx (E1.ext Eq) (F1.ext Eq) (C1.ext Eq) (D1.ext Eq) (B1.ext Eq) ho (SC.ext Eq) hCS hbq) hZ (oW hw 159 rfl) (oW hw 6 rfl) (by decide) (by decide)) (by decide) (g := (mkF m 5 #[.val (.ref o1)] [(.ref o1), (.ref bq), (.ref bq)])) rfl (by rw [hml]; rfl) (a := bq) (argsL := [(.ref o1)]) (rest := [(.ref bq)]) (lenOf pd_19 rfl) rfl (by show 2 * 0 + _ ≤ _; exact Nat.le_of_eq rfl) (hb hby dts2_5) rfl eq (by decide) (by decide) (fun v5 T5 L5 X5 hQ5 => ?_)
  obtain ⟨rfl, M5, K5, q1, q2, r, kc, q3, q4, q5⟩ := hQ5
  show oG p e below _ T5 (mkF m 8 #[.val (.ref o1)] [(.ref bq)])
  refine own_retA X5 hx hlk hret rfl rfl (hb hby dts2_8) ?_ (by decide) (by decide)
  exact ⟨bq, r, kc, rfl, Fr.app N0 M5, ((Keep.refl h0 []).ext Eq).trans K5 (allS (Or.inr (Nat.le_of_eq gq.symm)) all0), Nat.le_of_eq gq.symm, q1, q2, q4, q5⟩
theorem efcl3 (m : MethodId) (x0 : Int32) (x1 : Int32) : entryFrame m #[(.int x0), (.int x1)] 2 = mkF m 0 #[.val (.int x0), .val (.int x1)] [] := by first | (simp [entryFrame, mkF, argsToLocals, Value.category]; done) | rfl
set_option maxRecDepth 65536 in
set_option maxHeartbeats 40000000 in
theorem rm_cl3 (l : Launch) (Z : State) (a0 : Array Value) (hw : ∀ d ∈ tables_1, d.before a0 Z = true) (ws : List Jvm.Cond) (h0 : Heap) (n0 : Nat) (Z0 : n0 ≤ h0.size) :
    own_Met l Z ws (⟨"java/util/Arrays", "checkLength", "(II)V"⟩ : MethodName) jdk_65_method_131_code 2 none ({ frames := 0, cells := 0, slots := 0, locals := 0 } : Room) #[(.int 0), (.int 3)] h0 (fun v h L => v = none ∧ Fr n0 L ∧ h = h0) := by
  refine own_body (plainFor_of_name pn_6) ?_
  intro p e s m below meth c s₁ hx hby hml hret hlk hown hnm hZ X0 e0
  have hml : c.maxLocals = 2 := hml
  have hown : s.vm.findClass "java/util/Arrays" = some m.cls := hown
  have N0 := Fr.nil n0
  refine own_cast (efcl3 m (0 : Int32) (3 : Int32)) ?_
  show oG p e below _ s₁ (mkF m 0 #[.val (.int 0), .val (.int 3)] [])
  refine oS (fun t k => XS.iloadN X0.here hx rfl (hb hby dcl2_0) rfl  k) ?_
  refine oS (fun t k => XS.iloadN X0.here hx rfl (hb hby dcl2_1) rfl  k) ?_
  show oG p e below _ s₁ (mkF m 2 #[.val (.int 0), .val (.int 3)] [(.int 0), (.int 3)])
  refine oS (fun t k => XS.icmpYes X0.here hx rfl (pc0 := 2) (pc' := 37) rfl (hb hby dcl2_2) rfl (flt (by decide : ¬ (3 : Int32) < 0)).2.1 (by decide) (by decide) k) ?_
  show oG p e below _ s₁ (mkF m 37 #[.val (.int 0), .val (.int 3)] [])
  refine own_retV X0 hx hlk hret (hb hby dcl2_37) ?_ (by decide) (by decide)
  rw [e0]
  exact ⟨rfl, N0, rfl⟩
theorem efcb3 (m : MethodId) (x0 : Addr) (x1 : Int32) (x2 : Int32) : entryFrame m #[(.ref x0), (.int x1), (.int x2)] 5 = mkF m 0 #[.val (.ref x0), .val (.int x1), .val (.int x2), .unset, .unset] [] := by first | (simp [entryFrame, mkF, argsToLocals, Value.category]; done) | rfl
set_option maxRecDepth 65536 in
set_option maxHeartbeats 40000000 in
theorem rm_cb3 (l : Launch) (Z : State) (a0 : Array Value) (hw : ∀ d ∈ tables_1, d.before a0 Z = true) (ws : List Jvm.Cond) (b1 : Addr) (kb : ClassId) (d0 : Value) (d1 : Value) (d2 : Value) (d3 : Value) (d4 : Value) (d5 : Value) (d6 : Value) (d7 : Value) (d8 : Value) (d9 : Value) (d10 : Value) (d11 : Value) (d12 : Value) (d13 : Value) (d14 : Value) (d15 : Value) (h0 : Heap) (n0 : Nat) (Z0 : n0 ≤ h0.size) (B1 : Arv Z h0 b1 kb .byte (16 : Int32) [d0, d1, d2, d3, d4, d5, d6, d7, d8, d9, d10, d11, d12, d13, d14, d15] (.int 0)) :
    own_Met l Z ws (⟨"java/util/Arrays", "copyOfRangeByte", "([BII)[B"⟩ : MethodName) jdk_65_method_133_code 5 (some (.array .byte)) ({ frames := 1, cells := 1, slots := 3, locals := 24 } : Room) #[(.ref b1), (.int 0), (.int 3)] h0 (fun v h L => ∃ kc, v = some (.ref h0.size) ∧ Fr n0 L ∧ Keep h0 h [] ∧ Arv Z h h0.size kc .byte (3 : Int32) [d0, d1, d2] (.int 0)) := by
  refine own_body (plainFor_of_name pn_6) ?_
  intro p e s m below meth c s₁ hx hby hml hret hlk hown hnm hZ X0 e0
  have hml : c.maxLocals = 5 := hml
  have hown : s.vm.findClass "java/util/Arrays" = some m.cls := hown
  have N0 := Fr.nil n0
  refine own_cast (efcb3 m b1 (0 : Int32) (3 : Int32)) ?_
  show oG p e below _ s₁ (mkF m 0 #[.val (.ref b1), .val (.int 0), .val (.int 3), .unset, .unset] [])
  refine oS (fun t k => XS.iloadN X0.here hx rfl (hb hby dcb2_0) rfl  k) ?_
  refine oS (fun t k => XS.iloadN X0.here hx rfl (hb hby dcb2_1) rfl  k) ?_
  show oG p e below _ s₁ (mkF m 2 #[.val (.ref b1), .val (.int 0), .val (.int 3), .unset, .unset] [(.int 3), (.int 0)])
  refine own_callS X0 hx hZ (y := (⟨"java/util/Arrays", "checkLength", "(II)V"⟩ : MethodName)) (W := 0) (kc := 0) (ks := 0) hown (oW hw 188 rfl) (oW hw 189 rfl) (oW hw 183 rfl) (oW hw 190 rfl) (own_back (W := 0) (rm_cl3 l Z a0 hw [] h0 n0 Z0) hZ (oW hw 190 rfl) (oW hw 183 rfl) (by decide) (by decide)) (by decide) (g := (mkF m 2 #[.val (.ref b1), .val (.int 0), .val (.int 3), .unset, .unset] [(.int 3), (.int 0)])) rfl (by rw [hml]; rfl) (argsL := [(.int 0), (.int 3)]) (rest := []) (lenOf pd_13 rfl) rfl (by show 2 * 0 + _ ≤ _; exact Nat.le_of_eq rfl) (hb hby dcb2_2) rfl e0 (by decide) (by decide) (fun v2 T2 L2 X2 hQ2 => ?_)
  obtain ⟨rfl, M2, e2⟩ := hQ2
  have N2 := Fr.app N0 M2
  show oG p e below _ T2 (mkF m 5 #[.val (.ref b1), .val (.int 0), .val (.int 3), .unset, .unset] [])
  refine oS (fun t k => XS.iloadN X2.here hx rfl (hb hby dcb2_5) rfl  k) ?_
  refine oS (fun t k => XS.iloadN X2.here hx rfl (hb hby dcb2_6) rfl  k) ?_
  refine oS (fun t k => XS.isub X2.here hx rfl (hb hby dcb2_7) rfl k) ?_
  show oG p e below _ T2 (mkF m 8 #[.val (.ref b1), .val (.int 0), .val (.int 3), .unset, .unset] [(.int ((3 : Int32) - (0 : Int32)))])
  show oG p e below _ T2 (mkF m 8 #[.val (.ref b1), .val (.int 0), .val (.int 3), .unset, .unset] [(.int 3)])
  refine oS (fun t k => XS.istoreN X2.here hx rfl (hb hby dcb2_8) rfl (l' := #[.val (.ref b1), .val (.int 0), .val (.int 3), .val (.int 3), .unset]) rfl k) ?_
  show oG p e below _ T2 (mkF m 9 #[.val (.ref b1), .val (.int 0), .val (.int 3), .val (.int 3), .unset] [])
  refine oS (fun t k => XS.iloadN X2.here hx rfl (hb hby dcb2_9) rfl  k) ?_
  show oG p e below _ T2 (mkF m 10 #[.val (.ref b1), .val (.int 0), .val (.int 3), .val (.int 3), .unset] [(.int 3)])
  obtain ⟨T10, h10, k10, X10, e10, E10, A10, st10⟩ := newP X2 hx hZ (oW hw 19 rfl) e2 (g := (mkF m 10 #[.val (.ref b1), .val (.int 0), .val (.int 3), .val (.int 3), .unset] [(.int 3)])) rfl (hb hby dcb2_10) rfl (by decide) (cap := 3) (by decide) (by decide) (by decide) (by decide)
  obtain ⟨b10, g10⟩ : ∃ z, z = h0.size := ⟨_, rfl⟩
  rw [← g10] at A10 st10
  have V10 : Arv Z h10 b10 k10 .byte (3 : Int32) [(.int 0), (.int 0), (.int 0)] (.int 0) := (Arv.new A10 (by decide)).pad (pad_rep [] (.int 0) 3)
  refine oS st10 ?_
  show oG p e below _ T10 (mkF m 12 #[.val (.ref b1), .val (.int 0), .val (.int 3), .val (.int 3), .unset] [(.ref b10)])
  subst g10
  have Z10 : n0 ≤ h10.size := Nat.le_trans Z0 E10.1
  have B10 := B1.ext E10
  show oG p e below _ T10 (mkF m 12 #[.val (.ref b1), .val (.int 0), .val (.int 3), .val (.int 3), .unset] [(.ref h0.size)])
  refine oS (fun t k => XS.astore X10.here hx rfl (hb hby dcb2_12) rfl rfl (l' := #[.val (.ref b1), .val (.int 0), .val (.int 3), .val (.int 3), .val (.ref h0.size)]) rfl k) ?_
  show oG p e below _ T10 (mkF m 14 #[.val (.ref b1), .val (.int 0), .val (.int 3), .val (.int 3), .val (.ref h0.size)] [])
  refine oS (fun t k => XS.aloadN X10.here hx rfl (hb hby dcb2_14) rfl rfl k) ?_
  refine oS (fun t k => XS.iloadN X10.here hx rfl (hb hby dcb2_15) rfl  k) ?_
  refine oS (fun t k => XS.aload X10.here hx rfl (hb hby dcb2_16) rfl rfl k) ?_
  refine oS (fun t k => XS.iconst X10.here hx rfl (hb hby dcb2_18) k) ?_
  refine oS (fun t k => XS.aloadN X10.here hx rfl (hb hby dcb2_19) rfl rfl k) ?_
  show oG p e below _ T10 (mkF m 20 #[.val (.ref b1), .val (.int 0), .val (.int 3), .val (.int 3), .val (.ref h0.size)] [(.ref b1), (.int 0), (.ref h0.size), (.int 0), (.ref b1)])
  obtain ⟨cl20, Ar20, -, S20, M20, -, -⟩ := id B10
  refine oS (X10.arraylength hx (by rw [e10]; exact Ar20.1) (State.isArrayOf_alike hZ.alike Ar20.2.1) (g := (mkF m 20 #[.val (.ref b1), .val (.int 0), .val (.int 3), .val (.int 3), .val (.ref h0.size)] [(.ref b1), (.int 0), (.ref h0.size), (.int 0), (.ref b1)])) rfl rfl (hb hby dcb2_20)) ?_
  rw [len_of S20 M20]
  show oG p e below _ T10 (mkF m 21 #[.val (.ref b1), .val (.int 0), .val (.int 3), .val (.int 3), .val (.ref h0.size)] [(.int 16), (.int 0), (.ref h0.size), (.int 0), (.ref b1)])
  refine oS (fun t k => XS.iloadN X10.here hx rfl (hb hby dcb2_21) rfl  k) ?_
  refine oS (fun t k => XS.isub X10.here hx rfl (hb hby dcb2_22) rfl k) ?_
  show oG p e below _ T10 (mkF m 23 #[.val (.ref b1), .val (.int 0), .val (.int 3), .val (.int 3), .val (.ref h0.size)] [(.int ((16 : Int32) - (0 : Int32))), (.int 0), (.ref h0.size), (.int 0), (.ref b1)])
  show oG p e below _ T10 (mkF m 23 #[.val (.ref b1), .val (.int 0), .val (.int 3), .val (.int 3), .val (.ref h0.size)] [(.int 16), (.int 0), (.ref h0.size), (.int 0), (.ref b1)])
  refine oS (fun t k => XS.iloadN X10.here hx rfl (hb hby dcb2_23) rfl  k) ?_
  show oG p e below _ T10 (mkF m 24 #[.val (.ref b1), .val (.int 0), .val (.int 3), .val (.int 3), .val (.ref h0.size)] [(.int 3), (.int 16), (.int 0), (.ref h0.size), (.int 0), (.ref b1)])
  refine own_callS X10 hx hZ (y := (⟨"java/lang/Math", "min", "(II)I"⟩ : MethodName)) (W := 4) (kc := 0) (ks := 0) hown (oW hw 191 rfl) (oW hw 192 rfl) (oW hw 193 rfl) (oW hw 194 rfl) (own_back (W := 4) (rm_mi l Z a0 hw [] (16 : Int32) (3 : Int32) h10 n0 Z10) hZ (oW hw 194 rfl) (oW hw 193 rfl) (by decide) (by decide)) (by decide) (g := (mkF m 24 #[.val (.ref b1), .val (.int 0), .val (.int 3), .val (.int 3), .val (.ref h0.size)] [(.int 3), (.int 16), (.int 0), (.ref h0.size), (.int 0), (.ref b1)])) rfl (by rw [hml]; rfl) (argsL := [(.int 16), (.int 3)]) (rest := [(.int 0), (.ref h0.size), (.int 0), (.ref b1)]) (lenOf pd_14 rfl) rfl (by show 2 * 0 + _ ≤ _; exact Nat.le_of_eq rfl) (hb hby dcb2_24) rfl e10 (by decide) (by decide) (fun v24 T24 L24 X24 hQ24 => ?_)
  obtain ⟨rfl, M24, e24⟩ := hQ24
  rw [(by decide : (if (3 : Int32) < 16 then (3 : Int32) else 16) = 3)]
  have N24 := Fr.app N2 M24
  show oG p e below _ T24 (mkF m 27 #[.val (.ref b1), .val (.int 0), .val (.int 3), .val (.int 3), .val (.ref h0.size)] [(.int 3), (.int 0), (.ref h0.size), (.int 0), (.ref b1)])
  obtain ⟨T27, h27, L27, X27, e27, N27, K27c, B27c, st27⟩ := cpA X24 hx hZ hown (oW hw 195 rfl) (oW hw 150 rfl) (oW hw 148 rfl) (oW hw 149 rfl) e24 B10 V10 (Or.inl ⟨rfl, rfl⟩) (by decide) (by decide) (by decide) (by decide) (by decide) rfl (Nat.le_of_ble_eq_true rfl) N24 Z0 (g := (mkF m 27 #[.val (.ref b1), .val (.int 0), .val (.int 3), .val (.int 3), .val (.ref h0.size)] [(.int 3), (.int 0), (.ref h0.size), (.int 0), (.ref b1)])) rfl (by rw [hml]; rfl) rfl (hb hby dcb2_27) (by decide) (W := 0) (by show 2 * 0 + _ ≤ _; exact Nat.le_of_eq rfl) (by decide)
  refine oS st27 ?_
  show oG p e below _ T27 (mkF m 30 #[.val (.ref b1), .val (.int 0), .val (.int 3), .val (.int 3), .val (.ref h0.size)] [])
  refine oS (fun t k => XS.aload X27.here hx rfl (hb hby dcb2_30) rfl rfl k) ?_
  show oG p e below _ T27 (mkF m 32 #[.val (.ref b1), .val (.int 0), .val (.int 3), .val (.int 3), .val (.ref h0.size)] [(.ref h0.size)])
  refine own_retA X27 hx hlk hret rfl rfl (hb hby dcb2_32) ?_ (by decide) (by decide)
  rw [e27]
  exact ⟨k10, rfl, N27, ((Keep.refl h0 []).ext E10).trans K27c (allS (Or.inr (Nat.le_refl _)) all0), B27c⟩
theorem efcr3 (m : MethodId) (x0 : Addr) (x1 : Int32) (x2 : Int32) : entryFrame m #[(.ref x0), (.int x1), (.int x2)] 3 = mkF m 0 #[.val (.ref x0), .val (.int x1), .val (.int x2)] [] := by first | (simp [entryFrame, mkF, argsToLocals, Value.category]; done) | rfl
set_option maxRecDepth 65536 in
set_option maxHeartbeats 40000000 in
theorem rm_cr3 (l : Launch) (Z : State) (a0 : Array Value) (hw : ∀ d ∈ tables_1, d.before a0 Z = true) (ws : List Jvm.Cond) (b1 : Addr) (kb : ClassId) (d0 : Value) (d1 : Value) (d2 : Value) (d3 : Value) (d4 : Value) (d5 : Value) (d6 : Value) (d7 : Value) (d8 : Value) (d9 : Value) (d10 : Value) (d11 : Value) (d12 : Value) (d13 : Value) (d14 : Value) (d15 : Value) (h0 : Heap) (n0 : Nat) (Z0 : n0 ≤ h0.size) (B1 : Arv Z h0 b1 kb .byte (16 : Int32) [d0, d1, d2, d3, d4, d5, d6, d7, d8, d9, d10, d11, d12, d13, d14, d15] (.int 0)) :
    own_Met l Z ws (⟨"java/util/Arrays", "copyOfRange", "([BII)[B"⟩ : MethodName) jdk_65_method_132_code 3 (some (.array .byte)) ({ frames := 2, cells := 1, slots := 3, locals := 40 } : Room) #[(.ref b1), (.int 0), (.int 3)] h0 (fun v h L => ∃ kc, v = some (.ref h0.size) ∧ Fr n0 L ∧ Keep h0 h [] ∧ Arv Z h h0.size kc .byte (3 : Int32) [d0, d1, d2] (.int 0)) := by
  refine own_body (plainFor_of_name pn_6) ?_
  intro p e s m below meth c s₁ hx hby hml hret hlk hown hnm hZ X0 e0
  have hml : c.maxLocals = 3 := hml
  have hown : s.vm.findClass "java/util/Arrays" = some m.cls := hown
  have N0 := Fr.nil n0
  refine own_cast (efcr3 m b1 (0 : Int32) (3 : Int32)) ?_
  show oG p e below _ s₁ (mkF m 0 #[.val (.ref b1), .val (.int 0), .val (.int 3)] [])
  refine oS (fun t k => XS.iloadN X0.here hx rfl (hb hby dcr2_0) rfl  k) ?_
  show oG p e below _ s₁ (mkF m 1 #[.val (.ref b1), .val (.int 0), .val (.int 3)] [(.int 0)])
  refine oS (fun t k => XS.ifNo X0.here hx rfl (hb hby dcr2_1) rfl ((if0 _ _).trans (teq (rfl : (0 : Int32) = 0)).2) k) ?_
  show oG p e below _ s₁ (mkF m 4 #[.val (.ref b1), .val (.int 0), .val (.int 3)] [])
  refine oS (fun t k => XS.iloadN X0.here hx rfl (hb hby dcr2_4) rfl  k) ?_
  refine oS (fun t k => XS.aloadN X0.here hx rfl (hb hby dcr2_5) rfl rfl k) ?_
  show oG p e below _ s₁ (mkF m 6 #[.val (.ref b1), .val (.int 0), .val (.int 3)] [(.ref b1), (.int 3)])
  obtain ⟨cl6, Ar6, -, S6, M6, -, -⟩ := id B1
  refine oS (X0.arraylength hx (by rw [e0]; exact Ar6.1) (State.isArrayOf_alike hZ.alike Ar6.2.1) (g := (mkF m 6 #[.val (.ref b1), .val (.int 0), .val (.int 3)] [(.ref b1), (.int 3)])) rfl rfl (hb hby dcr2_6)) ?_
  rw [len_of S6 M6]
  show oG p e below _ s₁ (mkF m 7 #[.val (.ref b1), .val (.int 0), .val (.int 3)] [(.int 16), (.int 3)])
  refine oS (fun t k => XS.icmpNo X0.here hx rfl (hb hby dcr2_7) rfl (feq (by decide : ¬ (3 : Int32) = 16)).1 k) ?_
  show oG p e below _ s₁ (mkF m 10 #[.val (.ref b1), .val (.int 0), .val (.int 3)] [])
  refine oS (fun t k => XS.aloadN X0.here hx rfl (hb hby dcr2_10) rfl rfl k) ?_
  refine oS (fun t k => XS.iloadN X0.here hx rfl (hb hby dcr2_11) rfl  k) ?_
  refine oS (fun t k => XS.iloadN X0.here hx rfl (hb hby dcr2_12) rfl  k) ?_
  show oG p e below _ s₁ (mkF m 13 #[.val (.ref b1), .val (.int 0), .val (.int 3)] [(.int 3), (.int 0), (.ref b1)])
  refine own_callS X0 hx hZ (y := (⟨"java/util/Arrays", "copyOfRangeByte", "([BII)[B"⟩ : MethodName)) (W := 0) (kc := 1) (ks := 3) hown (oW hw 185 rfl) (oW hw 186 rfl) (oW hw 183 rfl) (oW hw 187 rfl) (own_back (W := 0) (rm_cb3 l Z a0 hw [] b1 kb d0 d1 d2 d3 d4 d5 d6 d7 d8 d9 d10 d11 d12 d13 d14 d15 h0 n0 Z0 B1) hZ (oW hw 187 rfl) (oW hw 183 rfl) (by decide) (by decide)) (by decide) (g := (mkF m 13 #[.val (.ref b1), .val (.int 0), .val (.int 3)] [(.int 3), (.int 0), (.ref b1)])) rfl (by rw [hml]; rfl) (argsL := [(.ref b1), (.int 0), (.int 3)]) (rest := []) (lenOf pd_15 rfl) rfl (by show 2 * 0 + _ ≤ _; exact Nat.le_of_eq rfl) (hb hby dcr2_13) rfl e0 (by decide) (by decide) (fun v13 T13 L13 X13 hQ13 => ?_)
  obtain ⟨kc, rfl, M13, K13, B13⟩ := hQ13
  show oG p e below _ T13 (mkF m 16 #[.val (.ref b1), .val (.int 0), .val (.int 3)] [(.ref h0.size)])
  refine own_retA X13 hx hlk hret rfl rfl (hb hby dcr2_16) ?_ (by decide) (by decide)
  exact ⟨kc, rfl, Fr.app N0 M13, K13, B13⟩
theorem efsw3 (m : MethodId) (x0 : Addr) (x1 : Addr) : entryFrame m #[(.ref x0), (.ref x1), .null] 5 = mkF m 0 #[.val (.ref x0), .val (.ref x1), .val .null, .unset, .unset] [] := by first | (simp [entryFrame, mkF, argsToLocals, Value.category]; done) | rfl
set_option maxRecDepth 65536 in
set_option maxHeartbeats 40000000 in
theorem rm_sw3 (l : Launch) (Z : State) (a0 : Array Value) (hw : ∀ d ∈ tables_1, d.before a0 Z = true) (ws : List Jvm.Cond) (x1 : Addr) (o1 : Addr) (b1 : Addr) (kb : ClassId) (v0 : Value) (c0v : Value) (CS : Int32) (d0 : Value) (d1 : Value) (d2 : Value) (d3 : Value) (d4 : Value) (d5 : Value) (d6 : Value) (d7 : Value) (d8 : Value) (d9 : Value) (d10 : Value) (d11 : Value) (d12 : Value) (d13 : Value) (d14 : Value) (d15 : Value) (h0 : Heap) (n0 : Nat) (Z0 : n0 ≤ h0.size) (Ex : Exa Z h0 x1 "java/lang/String") (Fx : Fld Z h0 x1 "java/lang/String" "value" "[B" v0) (Cx : Fld Z h0 x1 "java/lang/String" "coder" "B" c0v) (gx : n0 ≤ x1) (E1 : Exa Z h0 o1 "java/lang/StringBuilder") (F1 : Fld Z h0 o1 "java/lang/AbstractStringBuilder" "value" "[B" (.ref b1)) (C1 : Fld Z h0 o1 "java/lang/AbstractStringBuilder" "coder" "B" (.int 0)) (D1 : Fld Z h0 o1 "java/lang/AbstractStringBuilder" "count" "I" (.int 3)) (B1 : Arv Z h0 b1 kb .byte (16 : Int32) [d0, d1, d2, d3, d4, d5, d6, d7, d8, d9, d10, d11, d12, d13, d14, d15] (.int 0)) (hxo : o1 ≠ x1) (SC : Sta Z h0 "java/lang/String" "COMPACT_STRINGS" "Z" (.int CS)) (hCS : ¬ CS = 0) (hbx : b1 ≠ x1) :
    own_Met l Z ws (⟨"java/lang/String", "<init>", "(Ljava/lang/AbstractStringBuilder;Ljava/lang/Void;)V"⟩ : MethodName) jdk_42_method_150_code 5 none ({ frames := 3, cells := 1, slots := 3, locals := 60 } : Room) #[(.ref x1), (.ref o1), .null] h0 (fun v h L => v = none ∧ Fr n0 L ∧ Keep h0 h [x1] ∧ Exa Z h x1 "java/lang/String" ∧ Fld Z h x1 "java/lang/String" "coder" "B" (.int 0) ∧ ∃ (r : Addr) (kc : ClassId), h0.size ≤ r ∧ Fld Z h x1 "java/lang/String" "value" "[B" (.ref r) ∧ Arv Z h r kc .byte (3 : Int32) [d0, d1, d2] (.int 0)) := by
  refine own_body (plainFor_of_name pn_2) ?_
  intro p e s m below meth c s₁ hx hby hml hret hlk hown hnm hZ X0 e0
  have hml : c.maxLocals = 5 := hml
  have hown : s.vm.findClass "java/lang/String" = some m.cls := hown
  have N0 := Fr.nil n0
  refine own_cast (efsw3 m x1 o1) ?_
  show oG p e below _ s₁ (mkF m 0 #[.val (.ref x1), .val (.ref o1), .val .null, .unset, .unset] [])
  refine oS (fun t k => XS.aloadN X0.here hx rfl (hb hby dsw2_0) rfl rfl k) ?_
  show oG p e below _ s₁ (mkF m 1 #[.val (.ref x1), .val (.ref o1), .val .null, .unset, .unset] [(.ref x1)])
  obtain ⟨T1, X1, e1, st1⟩ := initO X0 hx hZ hown (oW hw 15 rfl) (oW hw 16 rfl) (oW hw 17 rfl) e0 (g := (mkF m 1 #[.val (.ref x1), .val (.ref o1), .val .null, .unset, .unset] [(.ref x1)])) rfl (by rw [hml]; rfl) rfl (hb hby dsw2_1) (by decide) (W := 0) (by show 2 * 0 + _ ≤ _; exact Nat.le_of_eq rfl) (by decide)
  refine oS st1 ?_
  show oG p e below _ T1 (mkF m 4 #[.val (.ref x1), .val (.ref o1), .val .null, .unset, .unset] [])
  refine oS (fun t k => XS.aloadN X1.here hx rfl (hb hby dsw2_4) rfl rfl k) ?_
  show oG p e below _ T1 (mkF m 5 #[.val (.ref x1), .val (.ref o1), .val .null, .unset, .unset] [(.ref o1)])
  refine own_callVC X1 hx hZ (y := (⟨"java/lang/AbstractStringBuilder", "getValue", "()[B"⟩ : MethodName)) (z := (⟨"java/lang/AbstractStringBuilder", "getValue", "()[B"⟩ : MethodName)) (W := 0) (kc := 0) (ks := 0) hown (oW hw 163 rfl) (oW hw 164 rfl) (own_nf (oW hw 129 rfl) rfl hZ) (oW hw 166 rfl) (oW hw 165 rfl) (own_back (W := 0) (rm_gv l Z a0 hw [] o1 b1 h0 n0 Z0 F1) hZ (oW hw 167 rfl) (oW hw 94 rfl) (by decide) (by decide)) (by decide) (b := o1) E1 (g := (mkF m 5 #[.val (.ref x1), .val (.ref o1), .val .null, .unset, .unset] [(.ref o1)])) rfl (by rw [hml]; rfl) (argsL := []) (rest := []) (lenOf pd_16 rfl) rfl (by show 2 * 0 + _ ≤ _; exact Nat.le_of_eq rfl) (hb hby dsw2_5) rfl e1 (by decide) (by decide) (fun v5 T5 L5 X5 hQ5 => ?_)
  obtain ⟨rfl, M5, e5⟩ := hQ5
  show oG p e below _ T5 (mkF m 8 #[.val (.ref x1), .val (.ref o1), .val .null, .unset, .unset] [(.ref b1)])
  refine oS (fun t k => XS.astoreN X5.here hx rfl (hb hby dsw2_8) rfl rfl (l' := #[.val (.ref x1), .val (.ref o1), .val .null, .val (.ref b1), .unset]) rfl k) ?_
  show oG p e below _ T5 (mkF m 9 #[.val (.ref x1), .val (.ref o1), .val .null, .val (.ref b1), .unset] [])
  refine oS (fun t k => XS.aloadN X5.here hx rfl (hb hby dsw2_9) rfl rfl k) ?_
  show oG p e below _ T5 (mkF m 10 #[.val (.ref x1), .val (.ref o1), .val .null, .val (.ref b1), .unset] [(.ref o1)])
  refine own_callVC X5 hx hZ (y := (⟨"java/lang/AbstractStringBuilder", "length", "()I"⟩ : MethodName)) (z := (⟨"java/lang/StringBuilder", "length", "()I"⟩ : MethodName)) (W := 0) (kc := 0) (ks := 0) hown (oW hw 168 rfl) (oW hw 169 rfl) (own_nf (oW hw 129 rfl) rfl hZ) (oW hw 171 rfl) (oW hw 172 rfl) (own_back (W := 0) (rm_sl l Z a0 hw [] o1 (3 : Int32) h0 n0 Z0 E1 D1) hZ (oW hw 173 rfl) (oW hw 86 rfl) (by decide) (by decide)) (by decide) (b := o1) E1 (g := (mkF m 10 #[.val (.ref x1), .val (.ref o1), .val .null, .val (.ref b1), .unset] [(.ref o1)])) rfl (by rw [hml]; rfl) (argsL := []) (rest := []) (lenOf pd_8 rfl) rfl (by show 2 * 0 + _ ≤ _; exact Nat.le_of_eq rfl) (hb hby dsw2_10) rfl e5 (by decide) (by decide) (fun v10 T10 L10 X10 hQ10 => ?_)
  obtain ⟨rfl, M10, e10⟩ := hQ10
  show oG p e below _ T10 (mkF m 13 #[.val (.ref x1), .val (.ref o1), .val .null, .val (.ref b1), .unset] [(.int 3)])
  refine oS (fun t k => XS.istore X10.here hx rfl (hb hby dsw2_13) rfl (l' := #[.val (.ref x1), .val (.ref o1), .val .null, .val (.ref b1), .val (.int 3)]) rfl k) ?_
  show oG p e below _ T10 (mkF m 15 #[.val (.ref x1), .val (.ref o1), .val .null, .val (.ref b1), .val (.int 3)] [])
  refine oS (fun t k => XS.aloadN X10.here hx rfl (hb hby dsw2_15) rfl rfl k) ?_
  show oG p e below _ T10 (mkF m 16 #[.val (.ref x1), .val (.ref o1), .val .null, .val (.ref b1), .val (.int 3)] [(.ref o1)])
  refine own_callVC X10 hx hZ (y := (⟨"java/lang/AbstractStringBuilder", "isLatin1", "()Z"⟩ : MethodName)) (z := (⟨"java/lang/AbstractStringBuilder", "isLatin1", "()Z"⟩ : MethodName)) (W := 0) (kc := 0) (ks := 0) hown (oW hw 176 rfl) (oW hw 177 rfl) (own_nf (oW hw 129 rfl) rfl hZ) (oW hw 179 rfl) (oW hw 178 rfl) (own_back (W := 0) (rm_ab l Z a0 hw [] o1 CS h0 n0 Z0 C1 SC hCS) hZ (oW hw 180 rfl) (oW hw 94 rfl) (by decide) (by decide)) (by decide) (b := o1) E1 (g := (mkF m 16 #[.val (.ref x1), .val (.ref o1), .val .null, .val (.ref b1), .val (.int 3)] [(.ref o1)])) rfl (by rw [hml]; rfl) (argsL := []) (rest := []) (lenOf pd_17 rfl) rfl (by show 2 * 0 + _ ≤ _; exact Nat.le_of_eq rfl) (hb hby dsw2_16) rfl e10 (by decide) (by decide) (fun v16 T16 L16 X16 hQ16 => ?_)
  obtain ⟨rfl, M16, e16⟩ := hQ16
  have N16 := Fr.app (Fr.app (Fr.app N0 M5) M10) M16
  show oG p e below _ T16 (mkF m 19 #[.val (.ref x1), .val (.ref o1), .val .null, .val (.ref b1), .val (.int 3)] [(.int 1)])
  refine oS (fun t k => XS.ifNo X16.here hx rfl (hb hby dsw2_19) rfl ((if0 _ _).trans (feq (by decide : ¬ (1 : Int32) = 0)).1) k) ?_
  show oG p e below _ T16 (mkF m 22 #[.val (.ref x1), .val (.ref o1), .val .null, .val (.ref b1), .val (.int 3)] [])
  refine oS (fun t k => XS.aloadN X16.here hx rfl (hb hby dsw2_22) rfl rfl k) ?_
  refine oS (fun t k => XS.iconst X16.here hx rfl (hb hby dsw2_23) k) ?_
  show oG p e below _ T16 (mkF m 24 #[.val (.ref x1), .val (.ref o1), .val .null, .val (.ref b1), .val (.int 3)] [(.int 0), (.ref x1)])
  obtain ⟨T24, h24, X24, e24, W24, st24⟩ := putFN X16 hx hZ hown (oW hw 25 rfl) Via.refl e16 Cx Ex (Or.inr ⟨(oW hw 21 rfl), rfl, hnm⟩) (oW hw 5 rfl) (ty := .byte) (v' := (.int 0)) (by decide) rfl rfl (g := (mkF m 24 #[.val (.ref x1), .val (.ref o1), .val .null, .val (.ref b1), .val (.int 3)] [(.int 0), (.ref x1)])) rfl rfl (hb hby dsw2_24)
  refine oS st24 ?_
  have N24 := Fr.snoc X24 N16 gx
  have E24_o := Ex.wr W24
  have F24_value := Fx.other W24 (Or.inr (slot_ne (Or.inr (oW hw 20 rfl)) (Or.inr (oW hw 21 rfl)) (by decide) (t := (.array .byte)) (t' := .byte) (by decide) (by decide)))
  have F24_coder := Cx.same W24
  show oG p e below _ T24 (mkF m 27 #[.val (.ref x1), .val (.ref o1), .val .null, .val (.ref b1), .val (.int 3)] [])
  have Z24 : n0 ≤ h24.size := Nat.le_trans Z0 (Keep.of_wr W24).1
  have B24 := B1.other W24 hbx
  refine oS (fun t k => XS.aloadN X24.here hx rfl (hb hby dsw2_27) rfl rfl k) ?_
  refine oS (fun t k => XS.aloadN X24.here hx rfl (hb hby dsw2_28) rfl rfl k) ?_
  refine oS (fun t k => XS.iconst X24.here hx rfl (hb hby dsw2_29) k) ?_
  refine oS (fun t k => XS.iload X24.here hx rfl (hb hby dsw2_30) rfl  k) ?_
  show oG p e below _ T24 (mkF m 32 #[.val (.ref x1), .val (.ref o1), .val .null, .val (.ref b1), .val (.int 3)] [(.int 3), (.int 0), (.ref b1), (.ref x1)])
  refine own_callS X24 hx hZ (y := (⟨"java/util/Arrays", "copyOfRange", "([BII)[B"⟩ : MethodName)) (W := 1) (kc := 1) (ks := 3) hown (oW hw 181 rfl) (oW hw 182 rfl) (oW hw 183 rfl) (oW hw 184 rfl) (own_back (W := 1) (rm_cr3 l Z a0 hw [] b1 kb d0 d1 d2 d3 d4 d5 d6 d7 d8 d9 d10 d11 d12 d13 d14 d15 h24 n0 Z24 B24) hZ (oW hw 184 rfl) (oW hw 183 rfl) (by decide) (by decide)) (by decide) (g := (mkF m 32 #[.val (.ref x1), .val (.ref o1), .val .null, .val (.ref b1), .val (.int 3)] [(.int 3), (.int 0), (.ref b1), (.ref x1)])) rfl (by rw [hml]; rfl) (argsL := [(.ref b1), (.int 0), (.int 3)]) (rest := [(.ref x1)]) (lenOf pd_15 rfl) rfl (by show 2 * 0 + _ ≤ _; exact Nat.le_of_eq rfl) (hb hby dsw2_32) rfl e24 (by decide) (by decide) (fun v32 T32 L32 X32 hQ32 => ?_)
  obtain ⟨kc, rfl, M32, K32, B32⟩ := hQ32
  have N32 := Fr.app N24 M32
  have nr : h24.size ≠ x1 := Nat.ne_of_gt E24_o.lt
  show oG p e below _ T32 (mkF m 35 #[.val (.ref x1), .val (.ref o1), .val .null, .val (.ref b1), .val (.int 3)] [(.ref h24.size), (.ref x1)])
  obtain ⟨T35, h35, X35, e35, W35, st35⟩ := putF X32 hx hZ hown (host := "") (Or.inl (oW hw 24 rfl)) Via.refl rfl (F24_value.keep K32 nin0) (E24_o.keep K32) (Or.inr ⟨(oW hw 20 rfl), rfl, hnm⟩) (oW hw 5 rfl) (ty := (.array .byte)) (by decide) rfl rfl (g := (mkF m 35 #[.val (.ref x1), .val (.ref o1), .val .null, .val (.ref b1), .val (.int 3)] [(.ref h24.size), (.ref x1)])) rfl rfl (hb hby dsw2_35)
  refine oS st35 ?_
  have N35 := Fr.snoc X35 N32 gx
  have E35_o := (E24_o.keep K32).wr W35
  have F35_value := (F24_value.keep K32 nin0).same W35
  have F35_coder := (F24_coder.keep K32 nin0).other W35 (Or.inr (slot_ne (Or.inr (oW hw 21 rfl)) (Or.inr (oW hw 20 rfl)) (by decide) (t := .byte) (t' := (.array .byte)) (by decide) (by decide)))
  show oG p e below _ T35 (mkF m 38 #[.val (.ref x1), .val (.ref o1), .val .null, .val (.ref b1), .val (.int 3)] [])
  have B35 := B32.other W35 nr
  refine oS (fun t k => XS.goto X35.here hx rfl (pc0 := 38) (pc' := 97) rfl (hb hby dsw2_38) (by decide) (by decide) k) ?_
  show oG p e below _ T35 (mkF m 97 #[.val (.ref x1), .val (.ref o1), .val .null, .val (.ref b1), .val (.int 3)] [])
  refine own_retV X35 hx hlk hret (hb hby dsw2_97) ?_ (by decide) (by decide)
  rw [e35]
  exact ⟨rfl, N35, ((((Keep.refl h0 [x1]).wr W24 (Or.inl (List.mem_of_getElem? (i := 0) rfl))).trans K32 all0).wr W35 (Or.inl (List.mem_of_getElem? (i := 0) rfl))), E35_o, F35_coder, h24.size, kc, (Keep.of_wr W24).1, F35_value, B35⟩
theorem efsx3 (m : MethodId) (x0 : Addr) (x1 : Addr) : entryFrame m #[(.ref x0), (.ref x1)] 2 = mkF m 0 #[.val (.ref x0), .val (.ref x1)] [] := by first | (simp [entryFrame, mkF, argsToLocals, Value.category]; done) | rfl
set_option maxRecDepth 65536 in
set_option maxHeartbeats 40000000 in
theorem rm_sx3 (l : Launch) (Z : State) (a0 : Array Value) (hw : ∀ d ∈ tables_1, d.before a0 Z = true) (ws : List Jvm.Cond) (x1 : Addr) (o1 : Addr) (b1 : Addr) (kb : ClassId) (v0 : Value) (c0v : Value) (CS : Int32) (d0 : Value) (d1 : Value) (d2 : Value) (d3 : Value) (d4 : Value) (d5 : Value) (d6 : Value) (d7 : Value) (d8 : Value) (d9 : Value) (d10 : Value) (d11 : Value) (d12 : Value) (d13 : Value) (d14 : Value) (d15 : Value) (h0 : Heap) (n0 : Nat) (Z0 : n0 ≤ h0.size) (Ex : Exa Z h0 x1 "java/lang/String") (Fx : Fld Z h0 x1 "java/lang/String" "value" "[B" v0) (Cx : Fld Z h0 x1 "java/lang/String" "coder" "B" c0v) (gx : n0 ≤ x1) (E1 : Exa Z h0 o1 "java/lang/StringBuilder") (F1 : Fld Z h0 o1 "java/lang/AbstractStringBuilder" "value" "[B" (.ref b1)) (C1 : Fld Z h0 o1 "java/lang/AbstractStringBuilder" "coder" "B" (.int 0)) (D1 : Fld Z h0 o1 "java/lang/AbstractStringBuilder" "count" "I" (.int 3)) (B1 : Arv Z h0 b1 kb .byte (16 : Int32) [d0, d1, d2, d3, d4, d5, d6, d7, d8, d9, d10, d11, d12, d13, d14, d15] (.int 0)) (hxo : o1 ≠ x1) (SC : Sta Z h0 "java/lang/String" "COMPACT_STRINGS" "Z" (.int CS)) (hCS : ¬ CS = 0) (hbx : b1 ≠ x1) :
    own_Met l Z ws (⟨"java/lang/String", "<init>", "(Ljava/lang/StringBuilder;)V"⟩ : MethodName) jdk_42_method_53_code 2 none ({ frames := 4, cells := 1, slots := 3, locals := 80 } : Room) #[(.ref x1), (.ref o1)] h0 (fun v h L => v = none ∧ Fr n0 L ∧ Keep h0 h [x1] ∧ Exa Z h x1 "java/lang/String" ∧ Fld Z h x1 "java/lang/String" "coder" "B" (.int 0) ∧ ∃ (r : Addr) (kc : ClassId), h0.size ≤ r ∧ Fld Z h x1 "java/lang/String" "value" "[B" (.ref r) ∧ Arv Z h r kc .byte (3 : Int32) [d0, d1, d2] (.int 0)) := by
  refine own_body (plainFor_of_name pn_2) ?_
  intro p e s m below meth c s₁ hx hby hml hret hlk hown hnm hZ X0 e0
  have hml : c.maxLocals = 2 := hml
  have hown : s.vm.findClass "java/lang/String" = some m.cls := hown
  have N0 := Fr.nil n0
  refine own_cast (efsx3 m x1 o1) ?_
  show oG p e below _ s₁ (mkF m 0 #[.val (.ref x1), .val (.ref o1)] [])
  refine oS (fun t k => XS.aloadN X0.here hx rfl (hb hby dsx2_0) rfl rfl k) ?_
  refine oS (fun t k => XS.aloadN X0.here hx rfl (hb hby dsx2_1) rfl rfl k) ?_
  refine oS (fun t k => XS.aconstNull X0.here hx rfl (hb hby dsx2_2) k) ?_
  show oG p e below _ s₁ (mkF m 3 #[.val (.ref x1), .val (.ref o1)] [.null, (.ref o1), (.ref x1)])
  refine own_callI X0 hx hZ (y := (⟨"java/lang/String", "<init>", "(Ljava/lang/AbstractStringBuilder;Ljava/lang/Void;)V"⟩ : MethodName)) (W := 0) (kc := 1) (ks := 3) rfl hown (oW hw 160 rfl) (oW hw 161 rfl) (oW hw 162 rfl) (own_back (W := 0) (rm_sw3 l Z a0 hw [] x1 o1 b1 kb v0 c0v CS d0 d1 d2 d3 d4 d5 d6 d7 d8 d9 d10 d11 d12 d13 d14 d15 h0 n0 Z0 Ex Fx Cx gx E1 F1 C1 D1 B1 hxo SC hCS hbx) hZ (oW hw 162 rfl) (oW hw 6 rfl) (by decide) (by decide)) (by decide) (g := (mkF m 3 #[.val (.ref x1), .val (.ref o1)] [.null, (.ref o1), (.ref x1)])) rfl (by rw [hml]; rfl) (a := x1) (argsL := [(.ref o1), .null]) (rest := []) (lenOf pd_18 rfl) rfl (by show 2 * 0 + _ ≤ _; exact Nat.le_of_eq rfl) (hb hby dsx2_3) rfl e0 (by decide) (by decide) (fun v3 T3 L3 X3 hQ3 => ?_)
  obtain ⟨rfl, M3, q⟩ := hQ3
  show oG p e below _ T3 (mkF m 6 #[.val (.ref x1), .val (.ref o1)] [])
  refine own_retV X3 hx hlk hret (hb hby dsx2_6) ?_ (by decide) (by decide)
  exact ⟨rfl, Fr.app N0 M3, q⟩
theorem efts3 (m : MethodId) (x0 : Addr) : entryFrame m #[(.ref x0)] 1 = mkF m 0 #[.val (.ref x0)] [] := by first | (simp [entryFrame, mkF, argsToLocals, Value.category]; done) | rfl
set_option maxRecDepth 65536 in
set_option maxHeartbeats 40000000 in
theorem rm_ts3 (l : Launch) (Z : State) (a0 : Array Value) (hw : ∀ d ∈ tables_1, d.before a0 Z = true) (ws : List Jvm.Cond) (o1 : Addr) (b1 : Addr) (kb : ClassId) (CS : Int32) (d0 : Value) (d1 : Value) (d2 : Value) (d3 : Value) (d4 : Value) (d5 : Value) (d6 : Value) (d7 : Value) (d8 : Value) (d9 : Value) (d10 : Value) (d11 : Value) (d12 : Value) (d13 : Value) (d14 : Value) (d15 : Value) (h0 : Heap) (n0 : Nat) (Z0 : n0 ≤ h0.size) (E1 : Exa Z h0 o1 "java/lang/StringBuilder") (F1 : Fld Z h0 o1 "java/lang/AbstractStringBuilder" "value" "[B" (.ref b1)) (C1 : Fld Z h0 o1 "java/lang/AbstractStringBuilder" "coder" "B" (.int 0)) (D1 : Fld Z h0 o1 "java/lang/AbstractStringBuilder" "count" "I" (.int 3)) (B1 : Arv Z h0 b1 kb .byte (16 : Int32) [d0, d1, d2, d3, d4, d5, d6, d7, d8, d9, d10, d11, d12, d13, d14, d15] (.int 0)) (SC : Sta Z h0 "java/lang/String" "COMPACT_STRINGS" "Z" (.int CS)) (hCS : ¬ CS = 0) :
    own_Met l Z ws (⟨"java/lang/StringBuilder", "toString", "()Ljava/lang/String;"⟩ : MethodName) jdk_67_method_42_code 1 (some (.object "java/lang/String")) ({ frames := 5, cells := 2, slots := 7, locals := 100 } : Room) #[(.ref o1)] h0 (fun v h L => ∃ (x r : Addr) (kc : ClassId), v = some (.ref x) ∧ Fr n0 L ∧ Keep h0 h [] ∧ h0.size ≤ x ∧ Exa Z h x "java/lang/String" ∧ Fld Z h x "java/lang/String" "coder" "B" (.int 0) ∧ Fld Z h x "java/lang/String" "value" "[B" (.ref r) ∧ Arv Z h r kc .byte (3 : Int32) [d0, d1, d2] (.int 0)) := by
  refine own_body (plainFor_of_name pn_5) ?_
  intro p e s m below meth c s₁ hx hby hml hret hlk hown hnm hZ X0 e0
  have hml : c.maxLocals = 1 := hml
  have hown : s.vm.findClass "java/lang/StringBuilder" = some m.cls := hown
  have N0 := Fr.nil n0
  refine own_cast (efts3 m o1) ?_
  show oG p e below _ s₁ (mkF m 0 #[.val (.ref o1)] [])
  obtain ⟨Tq, hq, Xq, eq, Eq, Aq, Dq, -, stq⟩ := newO X0 hx hZ hown (oW hw 156 rfl) (oW hw 5 rfl) (oW hw 6 rfl) e0 (g := (mkF m 0 #[.val (.ref o1)] [])) rfl (hb hby dts2_0) (by decide) (by decide)
  obtain ⟨bq, gq⟩ : ∃ z, z = h0.size := ⟨_, rfl⟩
  rw [← gq] at Aq Dq stq
  have Fq_value : Fld Z hq bq "java/lang/String" "value" "[B" .null := Dq (Or.inr (oW hw 20 rfl)) (ty := (.array .byte)) (by decide)
  have Fq_coder : Fld Z hq bq "java/lang/String" "coder" "B" (.int 0) := Dq (Or.inr (oW hw 21 rfl)) (ty := .byte) (by decide)
  refine oS stq ?_
  show oG p e below _ Tq (mkF m 3 #[.val (.ref o1)] [(.ref bq)])
  have Zq : n0 ≤ hq.size := Nat.le_trans Z0 Eq.1
  have gx : n0 ≤ bq := Nat.le_trans Z0 (Nat.le_of_eq gq.symm)
  have ho : o1 ≠ bq := Nat.ne_of_lt (Nat.lt_of_lt_of_le E1.lt (Nat.le_of_eq gq.symm))
  have hbq : b1 ≠ bq := Nat.ne_of_lt (Nat.lt_of_lt_of_le B1.lt (Nat.le_of_eq gq.symm))
  refine oS (fun t k => XS.dup Xq.here hx rfl (hb hby dts2_3) rfl rfl k) ?_
  refine oS (fun t k => XS.aloadN Xq.here hx rfl (hb hby dts2_4) rfl rfl k) ?_
  show oG p e below _ Tq (mkF m 5 #[.val (.ref o1)] [(.ref o1), (.ref bq), (.ref bq)])
  refine own_callI Xq hx hZ (y := (⟨"java/lang/String", "<init>", "(Ljava/lang/StringBuilder;)V"⟩ : MethodName)) (W := 1) (kc := 1) (ks := 3) rfl hown (oW hw 157 rfl) (oW hw 158 rfl) (oW hw 159 rfl) (own_back (W := 1) (rm_sx3 l Z a0 hw [] bq o1 b1 kb _ _ CS d0 d1 d2 d3 d4 d5 d6 d7 d8 d9 d10 d11 d12 d13 d14 d15 hq n0 Zq Aq Fq_value Fq_coder gx (E1.ext Eq) (F1.ext Eq) (C1.ext Eq) (D1.ext Eq) (B1.ext Eq) ho (SC.ext Eq) hCS hbq) hZ (oW hw 159 rfl) (oW hw 6 rfl) (by decide) (by decide)) (by decide) (g := (mkF m 5 #[.val (.ref o1)] [(.ref o1), (.ref bq), (.ref bq)])) rfl (by rw [hml]; rfl) (a := bq) (argsL := [(.ref o1)]) (rest := [(.ref bq)]) (lenOf pd_19 rfl) rfl (by show 2 * 0 + _ ≤ _; exact Nat.le_of_eq rfl) (hb hby dts2_5) rfl eq (by decide) (by decide) (fun v5 T5 L5 X5 hQ5 => ?_)
  obtain ⟨rfl, M5, K5, q1, q2, r, kc, q3, q4, q5⟩ := hQ5
  show oG p e below _ T5 (mkF m 8 #[.val (.ref o1)] [(.ref bq)])
  refine own_retA X5 hx hlk hret rfl rfl (hb hby dts2_8) ?_ (by decide) (by decide)
  exact ⟨bq, r, kc, rfl, Fr.app N0 M5, ((Keep.refl h0 []).ext Eq).trans K5 (allS (Or.inr (Nat.le_of_eq gq.symm)) all0), Nat.le_of_eq gq.symm, q1, q2, q4, q5⟩
theorem efcl4 (m : MethodId) (x0 : Int32) (x1 : Int32) : entryFrame m #[(.int x0), (.int x1)] 2 = mkF m 0 #[.val (.int x0), .val (.int x1)] [] := by first | (simp [entryFrame, mkF, argsToLocals, Value.category]; done) | rfl
set_option maxRecDepth 65536 in
set_option maxHeartbeats 40000000 in
theorem rm_cl4 (l : Launch) (Z : State) (a0 : Array Value) (hw : ∀ d ∈ tables_1, d.before a0 Z = true) (ws : List Jvm.Cond) (h0 : Heap) (n0 : Nat) (Z0 : n0 ≤ h0.size) :
    own_Met l Z ws (⟨"java/util/Arrays", "checkLength", "(II)V"⟩ : MethodName) jdk_65_method_131_code 2 none ({ frames := 0, cells := 0, slots := 0, locals := 0 } : Room) #[(.int 0), (.int 4)] h0 (fun v h L => v = none ∧ Fr n0 L ∧ h = h0) := by
  refine own_body (plainFor_of_name pn_6) ?_
  intro p e s m below meth c s₁ hx hby hml hret hlk hown hnm hZ X0 e0
  have hml : c.maxLocals = 2 := hml
  have hown : s.vm.findClass "java/util/Arrays" = some m.cls := hown
  have N0 := Fr.nil n0
  refine own_cast (efcl4 m (0 : Int32) (4 : Int32)) ?_
  show oG p e below _ s₁ (mkF m 0 #[.val (.int 0), .val (.int 4)] [])
  refine oS (fun t k => XS.iloadN X0.here hx rfl (hb hby dcl2_0) rfl  k) ?_
  refine oS (fun t k => XS.iloadN X0.here hx rfl (hb hby dcl2_1) rfl  k) ?_
  show oG p e below _ s₁ (mkF m 2 #[.val (.int 0), .val (.int 4)] [(.int 0), (.int 4)])
  refine oS (fun t k => XS.icmpYes X0.here hx rfl (pc0 := 2) (pc' := 37) rfl (hb hby dcl2_2) rfl (flt (by decide : ¬ (4 : Int32) < 0)).2.1 (by decide) (by decide) k) ?_
  show oG p e below _ s₁ (mkF m 37 #[.val (.int 0), .val (.int 4)] [])
  refine own_retV X0 hx hlk hret (hb hby dcl2_37) ?_ (by decide) (by decide)
  rw [e0]
  exact ⟨rfl, N0, rfl⟩
theorem efcb4 (m : MethodId) (x0 : Addr) (x1 : Int32) (x2 : Int32) : entryFrame m #[(.ref x0), (.int x1), (.int x2)] 5 = mkF m 0 #[.val (.ref x0), .val (.int x1), .val (.int x2), .unset, .unset] [] := by first | (simp [entryFrame, mkF, argsToLocals, Value.category]; done) | rfl
set_option maxRecDepth 65536 in
set_option maxHeartbeats 40000000 in
theorem rm_cb4 (l : Launch) (Z : State) (a0 : Array Value) (hw : ∀ d ∈ tables_1, d.before a0 Z = true) (ws : List Jvm.Cond) (b1 : Addr) (kb : ClassId) (d0 : Value) (d1 : Value) (d2 : Value) (d3 : Value) (d4 : Value) (d5 : Value) (d6 : Value) (d7 : Value) (d8 : Value) (d9 : Value) (d10 : Value) (d11 : Value) (d12 : Value) (d13 : Value) (d14 : Value) (d15 : Value) (h0 : Heap) (n0 : Nat) (Z0 : n0 ≤ h0.size) (B1 : Arv Z h0 b1 kb .byte (16 : Int32) [d0, d1, d2, d3, d4, d5, d6, d7, d8, d9, d10, d11, d12, d13, d14, d15] (.int 0)) :
    own_Met l Z ws (⟨"java/util/Arrays", "copyOfRangeByte", "([BII)[B"⟩ : MethodName) jdk_65_method_133_code 5 (some (.array .byte)) ({ frames := 1, cells := 1, slots := 4, locals := 24 } : Room) #[(.ref b1), (.int 0), (.int 4)] h0 (fun v h L => ∃ kc, v = some (.ref h0.size) ∧ Fr n0 L ∧ Keep h0 h [] ∧ Arv Z h h0.size kc .byte (4 : Int32) [d0, d1, d2, d3] (.int 0)) := by
  refine own_body (plainFor_of_name pn_6) ?_
  intro p e s m below meth c s₁ hx hby hml hret hlk hown hnm hZ X0 e0
  have hml : c.maxLocals = 5 := hml
  have hown : s.vm.findClass "java/util/Arrays" = some m.cls := hown
  have N0 := Fr.nil n0
  refine own_cast (efcb4 m b1 (0 : Int32) (4 : Int32)) ?_
  show oG p e below _ s₁ (mkF m 0 #[.val (.ref b1), .val (.int 0), .val (.int 4), .unset, .unset] [])
  refine oS (fun t k => XS.iloadN X0.here hx rfl (hb hby dcb2_0) rfl  k) ?_
  refine oS (fun t k => XS.iloadN X0.here hx rfl (hb hby dcb2_1) rfl  k) ?_
  show oG p e below _ s₁ (mkF m 2 #[.val (.ref b1), .val (.int 0), .val (.int 4), .unset, .unset] [(.int 4), (.int 0)])
  refine own_callS X0 hx hZ (y := (⟨"java/util/Arrays", "checkLength", "(II)V"⟩ : MethodName)) (W := 0) (kc := 0) (ks := 0) hown (oW hw 188 rfl) (oW hw 189 rfl) (oW hw 183 rfl) (oW hw 190 rfl) (own_back (W := 0) (rm_cl4 l Z a0 hw [] h0 n0 Z0) hZ (oW hw 190 rfl) (oW hw 183 rfl) (by decide) (by decide)) (by decide) (g := (mkF m 2 #[.val (.ref b1), .val (.int 0), .val (.int 4), .unset, .unset] [(.int 4), (.int 0)])) rfl (by rw [hml]; rfl) (argsL := [(.int 0), (.int 4)]) (rest := []) (lenOf pd_13 rfl) rfl (by show 2 * 0 + _ ≤ _; exact Nat.le_of_eq rfl) (hb hby dcb2_2) rfl e0 (by decide) (by decide) (fun v2 T2 L2 X2 hQ2 => ?_)
  obtain ⟨rfl, M2, e2⟩ := hQ2
  have N2 := Fr.app N0 M2
  show oG p e below _ T2 (mkF m 5 #[.val (.ref b1), .val (.int 0), .val (.int 4), .unset, .unset] [])
  refine oS (fun t k => XS.iloadN X2.here hx rfl (hb hby dcb2_5) rfl  k) ?_
  refine oS (fun t k => XS.iloadN X2.here hx rfl (hb hby dcb2_6) rfl  k) ?_
  refine oS (fun t k => XS.isub X2.here hx rfl (hb hby dcb2_7) rfl k) ?_
  show oG p e below _ T2 (mkF m 8 #[.val (.ref b1), .val (.int 0), .val (.int 4), .unset, .unset] [(.int ((4 : Int32) - (0 : Int32)))])
  show oG p e below _ T2 (mkF m 8 #[.val (.ref b1), .val (.int 0), .val (.int 4), .unset, .unset] [(.int 4)])
  refine oS (fun t k => XS.istoreN X2.here hx rfl (hb hby dcb2_8) rfl (l' := #[.val (.ref b1), .val (.int 0), .val (.int 4), .val (.int 4), .unset]) rfl k) ?_
  show oG p e below _ T2 (mkF m 9 #[.val (.ref b1), .val (.int 0), .val (.int 4), .val (.int 4), .unset] [])
  refine oS (fun t k => XS.iloadN X2.here hx rfl (hb hby dcb2_9) rfl  k) ?_
  show oG p e below _ T2 (mkF m 10 #[.val (.ref b1), .val (.int 0), .val (.int 4), .val (.int 4), .unset] [(.int 4)])
  obtain ⟨T10, h10, k10, X10, e10, E10, A10, st10⟩ := newP X2 hx hZ (oW hw 19 rfl) e2 (g := (mkF m 10 #[.val (.ref b1), .val (.int 0), .val (.int 4), .val (.int 4), .unset] [(.int 4)])) rfl (hb hby dcb2_10) rfl (by decide) (cap := 4) (by decide) (by decide) (by decide) (by decide)
  obtain ⟨b10, g10⟩ : ∃ z, z = h0.size := ⟨_, rfl⟩
  rw [← g10] at A10 st10
  have V10 : Arv Z h10 b10 k10 .byte (4 : Int32) [(.int 0), (.int 0), (.int 0), (.int 0)] (.int 0) := (Arv.new A10 (by decide)).pad (pad_rep [] (.int 0) 4)
  refine oS st10 ?_
  show oG p e below _ T10 (mkF m 12 #[.val (.ref b1), .val (.int 0), .val (.int 4), .val (.int 4), .unset] [(.ref b10)])
  subst g10
  have Z10 : n0 ≤ h10.size := Nat.le_trans Z0 E10.1
  have B10 := B1.ext E10
  show oG p e below _ T10 (mkF m 12 #[.val (.ref b1), .val (.int 0), .val (.int 4), .val (.int 4), .unset] [(.ref h0.size)])
  refine oS (fun t k => XS.astore X10.here hx rfl (hb hby dcb2_12) rfl rfl (l' := #[.val (.ref b1), .val (.int 0), .val (.int 4), .val (.int 4), .val (.ref h0.size)]) rfl k) ?_
  show oG p e below _ T10 (mkF m 14 #[.val (.ref b1), .val (.int 0), .val (.int 4), .val (.int 4), .val (.ref h0.size)] [])
  refine oS (fun t k => XS.aloadN X10.here hx rfl (hb hby dcb2_14) rfl rfl k) ?_
  refine oS (fun t k => XS.iloadN X10.here hx rfl (hb hby dcb2_15) rfl  k) ?_
  refine oS (fun t k => XS.aload X10.here hx rfl (hb hby dcb2_16) rfl rfl k) ?_
  refine oS (fun t k => XS.iconst X10.here hx rfl (hb hby dcb2_18) k) ?_
  refine oS (fun t k => XS.aloadN X10.here hx rfl (hb hby dcb2_19) rfl rfl k) ?_
  show oG p e below _ T10 (mkF m 20 #[.val (.ref b1), .val (.int 0), .val (.int 4), .val (.int 4), .val (.ref h0.size)] [(.ref b1), (.int 0), (.ref h0.size), (.int 0), (.ref b1)])
  obtain ⟨cl20, Ar20, -, S20, M20, -, -⟩ := id B10
  refine oS (X10.arraylength hx (by rw [e10]; exact Ar20.1) (State.isArrayOf_alike hZ.alike Ar20.2.1) (g := (mkF m 20 #[.val (.ref b1), .val (.int 0), .val (.int 4), .val (.int 4), .val (.ref h0.size)] [(.ref b1), (.int 0), (.ref h0.size), (.int 0), (.ref b1)])) rfl rfl (hb hby dcb2_20)) ?_
  rw [len_of S20 M20]
  show oG p e below _ T10 (mkF m 21 #[.val (.ref b1), .val (.int 0), .val (.int 4), .val (.int 4), .val (.ref h0.size)] [(.int 16), (.int 0), (.ref h0.size), (.int 0), (.ref b1)])
  refine oS (fun t k => XS.iloadN X10.here hx rfl (hb hby dcb2_21) rfl  k) ?_
  refine oS (fun t k => XS.isub X10.here hx rfl (hb hby dcb2_22) rfl k) ?_
  show oG p e below _ T10 (mkF m 23 #[.val (.ref b1), .val (.int 0), .val (.int 4), .val (.int 4), .val (.ref h0.size)] [(.int ((16 : Int32) - (0 : Int32))), (.int 0), (.ref h0.size), (.int 0), (.ref b1)])
  show oG p e below _ T10 (mkF m 23 #[.val (.ref b1), .val (.int 0), .val (.int 4), .val (.int 4), .val (.ref h0.size)] [(.int 16), (.int 0), (.ref h0.size), (.int 0), (.ref b1)])
  refine oS (fun t k => XS.iloadN X10.here hx rfl (hb hby dcb2_23) rfl  k) ?_
  show oG p e below _ T10 (mkF m 24 #[.val (.ref b1), .val (.int 0), .val (.int 4), .val (.int 4), .val (.ref h0.size)] [(.int 4), (.int 16), (.int 0), (.ref h0.size), (.int 0), (.ref b1)])
  refine own_callS X10 hx hZ (y := (⟨"java/lang/Math", "min", "(II)I"⟩ : MethodName)) (W := 4) (kc := 0) (ks := 0) hown (oW hw 191 rfl) (oW hw 192 rfl) (oW hw 193 rfl) (oW hw 194 rfl) (own_back (W := 4) (rm_mi l Z a0 hw [] (16 : Int32) (4 : Int32) h10 n0 Z10) hZ (oW hw 194 rfl) (oW hw 193 rfl) (by decide) (by decide)) (by decide) (g := (mkF m 24 #[.val (.ref b1), .val (.int 0), .val (.int 4), .val (.int 4), .val (.ref h0.size)] [(.int 4), (.int 16), (.int 0), (.ref h0.size), (.int 0), (.ref b1)])) rfl (by rw [hml]; rfl) (argsL := [(.int 16), (.int 4)]) (rest := [(.int 0), (.ref h0.size), (.int 0), (.ref b1)]) (lenOf pd_14 rfl) rfl (by show 2 * 0 + _ ≤ _; exact Nat.le_of_eq rfl) (hb hby dcb2_24) rfl e10 (by decide) (by decide) (fun v24 T24 L24 X24 hQ24 => ?_)
  obtain ⟨rfl, M24, e24⟩ := hQ24
  rw [(by decide : (if (4 : Int32) < 16 then (4 : Int32) else 16) = 4)]
  have N24 := Fr.app N2 M24
  show oG p e below _ T24 (mkF m 27 #[.val (.ref b1), .val (.int 0), .val (.int 4), .val (.int 4), .val (.ref h0.size)] [(.int 4), (.int 0), (.ref h0.size), (.int 0), (.ref b1)])
  obtain ⟨T27, h27, L27, X27, e27, N27, K27c, B27c, st27⟩ := cpA X24 hx hZ hown (oW hw 195 rfl) (oW hw 150 rfl) (oW hw 148 rfl) (oW hw 149 rfl) e24 B10 V10 (Or.inl ⟨rfl, rfl⟩) (by decide) (by decide) (by decide) (by decide) (by decide) rfl (Nat.le_of_ble_eq_true rfl) N24 Z0 (g := (mkF m 27 #[.val (.ref b1), .val (.int 0), .val (.int 4), .val (.int 4), .val (.ref h0.size)] [(.int 4), (.int 0), (.ref h0.size), (.int 0), (.ref b1)])) rfl (by rw [hml]; rfl) rfl (hb hby dcb2_27) (by decide) (W := 0) (by show 2 * 0 + _ ≤ _; exact Nat.le_of_eq rfl) (by decide)
  refine oS st27 ?_
  show oG p e below _ T27 (mkF m 30 #[.val (.ref b1), .val (.int 0), .val (.int 4), .val (.int 4), .val (.ref h0.size)] [])
  refine oS (fun t k => XS.aload X27.here hx rfl (hb hby dcb2_30) rfl rfl k) ?_
  show oG p e below _ T27 (mkF m 32 #[.val (.ref b1), .val (.int 0), .val (.int 4), .val (.int 4), .val (.ref h0.size)] [(.ref h0.size)])
  refine own_retA X27 hx hlk hret rfl rfl (hb hby dcb2_32) ?_ (by decide) (by decide)
  rw [e27]
  exact ⟨k10, rfl, N27, ((Keep.refl h0 []).ext E10).trans K27c (allS (Or.inr (Nat.le_refl _)) all0), B27c⟩
theorem efcr4 (m : MethodId) (x0 : Addr) (x1 : Int32) (x2 : Int32) : entryFrame m #[(.ref x0), (.int x1), (.int x2)] 3 = mkF m 0 #[.val (.ref x0), .val (.int x1), .val (.int x2)] [] := by first | (simp [entryFrame, mkF, argsToLocals, Value.category]; done) | rfl
set_option maxRecDepth 65536 in
set_option maxHeartbeats 40000000 in
theorem rm_cr4 (l : Launch) (Z : State) (a0 : Array Value) (hw : ∀ d ∈ tables_1, d.before a0 Z = true) (ws : List Jvm.Cond) (b1 : Addr) (kb : ClassId) (d0 : Value) (d1 : Value) (d2 : Value) (d3 : Value) (d4 : Value) (d5 : Value) (d6 : Value) (d7 : Value) (d8 : Value) (d9 : Value) (d10 : Value) (d11 : Value) (d12 : Value) (d13 : Value) (d14 : Value) (d15 : Value) (h0 : Heap) (n0 : Nat) (Z0 : n0 ≤ h0.size) (B1 : Arv Z h0 b1 kb .byte (16 : Int32) [d0, d1, d2, d3, d4, d5, d6, d7, d8, d9, d10, d11, d12, d13, d14, d15] (.int 0)) :
    own_Met l Z ws (⟨"java/util/Arrays", "copyOfRange", "([BII)[B"⟩ : MethodName) jdk_65_method_132_code 3 (some (.array .byte)) ({ frames := 2, cells := 1, slots := 4, locals := 40 } : Room) #[(.ref b1), (.int 0), (.int 4)] h0 (fun v h L => ∃ kc, v = some (.ref h0.size) ∧ Fr n0 L ∧ Keep h0 h [] ∧ Arv Z h h0.size kc .byte (4 : Int32) [d0, d1, d2, d3] (.int 0)) := by
  refine own_body (plainFor_of_name pn_6) ?_
  intro p e s m below meth c s₁ hx hby hml hret hlk hown hnm hZ X0 e0
  have hml : c.maxLocals = 3 := hml
  have hown : s.vm.findClass "java/util/Arrays" = some m.cls := hown
  have N0 := Fr.nil n0
  refine own_cast (efcr4 m b1 (0 : Int32) (4 : Int32)) ?_
  show oG p e below _ s₁ (mkF m 0 #[.val (.ref b1), .val (.int 0), .val (.int 4)] [])
  refine oS (fun t k => XS.iloadN X0.here hx rfl (hb hby dcr2_0) rfl  k) ?_
  show oG p e below _ s₁ (mkF m 1 #[.val (.ref b1), .val (.int 0), .val (.int 4)] [(.int 0)])
  refine oS (fun t k => XS.ifNo X0.here hx rfl (hb hby dcr2_1) rfl ((if0 _ _).trans (teq (rfl : (0 : Int32) = 0)).2) k) ?_
  show oG p e below _ s₁ (mkF m 4 #[.val (.ref b1), .val (.int 0), .val (.int 4)] [])
  refine oS (fun t k => XS.iloadN X0.here hx rfl (hb hby dcr2_4) rfl  k) ?_
  refine oS (fun t k => XS.aloadN X0.here hx rfl (hb hby dcr2_5) rfl rfl k) ?_
  show oG p e below _ s₁ (mkF m 6 #[.val (.ref b1), .val (.int 0), .val (.int 4)] [(.ref b1), (.int 4)])
  obtain ⟨cl6, Ar6, -, S6, M6, -, -⟩ := id B1
  refine oS (X0.arraylength hx (by rw [e0]; exact Ar6.1) (State.isArrayOf_alike hZ.alike Ar6.2.1) (g := (mkF m 6 #[.val (.ref b1), .val (.int 0), .val (.int 4)] [(.ref b1), (.int 4)])) rfl rfl (hb hby dcr2_6)) ?_
  rw [len_of S6 M6]
  show oG p e below _ s₁ (mkF m 7 #[.val (.ref b1), .val (.int 0), .val (.int 4)] [(.int 16), (.int 4)])
  refine oS (fun t k => XS.icmpNo X0.here hx rfl (hb hby dcr2_7) rfl (feq (by decide : ¬ (4 : Int32) = 16)).1 k) ?_
  show oG p e below _ s₁ (mkF m 10 #[.val (.ref b1), .val (.int 0), .val (.int 4)] [])
  refine oS (fun t k => XS.aloadN X0.here hx rfl (hb hby dcr2_10) rfl rfl k) ?_
  refine oS (fun t k => XS.iloadN X0.here hx rfl (hb hby dcr2_11) rfl  k) ?_
  refine oS (fun t k => XS.iloadN X0.here hx rfl (hb hby dcr2_12) rfl  k) ?_
  show oG p e below _ s₁ (mkF m 13 #[.val (.ref b1), .val (.int 0), .val (.int 4)] [(.int 4), (.int 0), (.ref b1)])
  refine own_callS X0 hx hZ (y := (⟨"java/util/Arrays", "copyOfRangeByte", "([BII)[B"⟩ : MethodName)) (W := 0) (kc := 1) (ks := 4) hown (oW hw 185 rfl) (oW hw 186 rfl) (oW hw 183 rfl) (oW hw 187 rfl) (own_back (W := 0) (rm_cb4 l Z a0 hw [] b1 kb d0 d1 d2 d3 d4 d5 d6 d7 d8 d9 d10 d11 d12 d13 d14 d15 h0 n0 Z0 B1) hZ (oW hw 187 rfl) (oW hw 183 rfl) (by decide) (by decide)) (by decide) (g := (mkF m 13 #[.val (.ref b1), .val (.int 0), .val (.int 4)] [(.int 4), (.int 0), (.ref b1)])) rfl (by rw [hml]; rfl) (argsL := [(.ref b1), (.int 0), (.int 4)]) (rest := []) (lenOf pd_15 rfl) rfl (by show 2 * 0 + _ ≤ _; exact Nat.le_of_eq rfl) (hb hby dcr2_13) rfl e0 (by decide) (by decide) (fun v13 T13 L13 X13 hQ13 => ?_)
  obtain ⟨kc, rfl, M13, K13, B13⟩ := hQ13
  show oG p e below _ T13 (mkF m 16 #[.val (.ref b1), .val (.int 0), .val (.int 4)] [(.ref h0.size)])
  refine own_retA X13 hx hlk hret rfl rfl (hb hby dcr2_16) ?_ (by decide) (by decide)
  exact ⟨kc, rfl, Fr.app N0 M13, K13, B13⟩
theorem efsw4 (m : MethodId) (x0 : Addr) (x1 : Addr) : entryFrame m #[(.ref x0), (.ref x1), .null] 5 = mkF m 0 #[.val (.ref x0), .val (.ref x1), .val .null, .unset, .unset] [] := by first | (simp [entryFrame, mkF, argsToLocals, Value.category]; done) | rfl
set_option maxRecDepth 65536 in
set_option maxHeartbeats 40000000 in
theorem rm_sw4 (l : Launch) (Z : State) (a0 : Array Value) (hw : ∀ d ∈ tables_1, d.before a0 Z = true) (ws : List Jvm.Cond) (x1 : Addr) (o1 : Addr) (b1 : Addr) (kb : ClassId) (v0 : Value) (c0v : Value) (CS : Int32) (d0 : Value) (d1 : Value) (d2 : Value) (d3 : Value) (d4 : Value) (d5 : Value) (d6 : Value) (d7 : Value) (d8 : Value) (d9 : Value) (d10 : Value) (d11 : Value) (d12 : Value) (d13 : Value) (d14 : Value) (d15 : Value) (h0 : Heap) (n0 : Nat) (Z0 : n0 ≤ h0.size) (Ex : Exa Z h0 x1 "java/lang/String") (Fx : Fld Z h0 x1 "java/lang/String" "value" "[B" v0) (Cx : Fld Z h0 x1 "java/lang/String" "coder" "B" c0v) (gx : n0 ≤ x1) (E1 : Exa Z h0 o1 "java/lang/StringBuilder") (F1 : Fld Z h0 o1 "java/lang/AbstractStringBuilder" "value" "[B" (.ref b1)) (C1 : Fld Z h0 o1 "java/lang/AbstractStringBuilder" "coder" "B" (.int 0)) (D1 : Fld Z h0 o1 "java/lang/AbstractStringBuilder" "count" "I" (.int 4)) (B1 : Arv Z h0 b1 kb .byte (16 : Int32) [d0, d1, d2, d3, d4, d5, d6, d7, d8, d9, d10, d11, d12, d13, d14, d15] (.int 0)) (hxo : o1 ≠ x1) (SC : Sta Z h0 "java/lang/String" "COMPACT_STRINGS" "Z" (.int CS)) (hCS : ¬ CS = 0) (hbx : b1 ≠ x1) :
    own_Met l Z ws (⟨"java/lang/String", "<init>", "(Ljava/lang/AbstractStringBuilder;Ljava/lang/Void;)V"⟩ : MethodName) jdk_42_method_150_code 5 none ({ frames := 3, cells := 1, slots := 4, locals := 60 } : Room) #[(.ref x1), (.ref o1), .null] h0 (fun v h L => v = none ∧ Fr n0 L ∧ Keep h0 h [x1] ∧ Exa Z h x1 "java/lang/String" ∧ Fld Z h x1 "java/lang/String" "coder" "B" (.int 0) ∧ ∃ (r : Addr) (kc : ClassId), h0.size ≤ r ∧ Fld Z h x1 "java/lang/String" "value" "[B" (.ref r) ∧ Arv Z h r kc .byte (4 : Int32) [d0, d1, d2, d3] (.int 0)) := by
  refine own_body (plainFor_of_name pn_2) ?_
  intro p e s m below meth c s₁ hx hby hml hret hlk hown hnm hZ X0 e0
  have hml : c.maxLocals = 5 := hml
  have hown : s.vm.findClass "java/lang/String" = some m.cls := hown
  have N0 := Fr.nil n0
  refine own_cast (efsw4 m x1 o1) ?_
  show oG p e below _ s₁ (mkF m 0 #[.val (.ref x1), .val (.ref o1), .val .null, .unset, .unset] [])
  refine oS (fun t k => XS.aloadN X0.here hx rfl (hb hby dsw2_0) rfl rfl k) ?_
  show oG p e below _ s₁ (mkF m 1 #[.val (.ref x1), .val (.ref o1), .val .null, .unset, .unset] [(.ref x1)])
  obtain ⟨T1, X1, e1, st1⟩ := initO X0 hx hZ hown (oW hw 15 rfl) (oW hw 16 rfl) (oW hw 17 rfl) e0 (g := (mkF m 1 #[.val (.ref x1), .val (.ref o1), .val .null, .unset, .unset] [(.ref x1)])) rfl (by rw [hml]; rfl) rfl (hb hby dsw2_1) (by decide) (W := 0) (by show 2 * 0 + _ ≤ _; exact Nat.le_of_eq rfl) (by decide)
  refine oS st1 ?_
  show oG p e below _ T1 (mkF m 4 #[.val (.ref x1), .val (.ref o1), .val .null, .unset, .unset] [])
  refine oS (fun t k => XS.aloadN X1.here hx rfl (hb hby dsw2_4) rfl rfl k) ?_
  show oG p e below _ T1 (mkF m 5 #[.val (.ref x1), .val (.ref o1), .val .null, .unset, .unset] [(.ref o1)])
  refine own_callVC X1 hx hZ (y := (⟨"java/lang/AbstractStringBuilder", "getValue", "()[B"⟩ : MethodName)) (z := (⟨"java/lang/AbstractStringBuilder", "getValue", "()[B"⟩ : MethodName)) (W := 0) (kc := 0) (ks := 0) hown (oW hw 163 rfl) (oW hw 164 rfl) (own_nf (oW hw 129 rfl) rfl hZ) (oW hw 166 rfl) (oW hw 165 rfl) (own_back (W := 0) (rm_gv l Z a0 hw [] o1 b1 h0 n0 Z0 F1) hZ (oW hw 167 rfl) (oW hw 94 rfl) (by decide) (by decide)) (by decide) (b := o1) E1 (g := (mkF m 5 #[.val (.ref x1), .val (.ref o1), .val .null, .unset, .unset] [(.ref o1)])) rfl (by rw [hml]; rfl) (argsL := []) (rest := []) (lenOf pd_16 rfl) rfl (by show 2 * 0 + _ ≤ _; exact Nat.le_of_eq rfl) (hb hby dsw2_5) rfl e1 (by decide) (by decide) (fun v5 T5 L5 X5 hQ5 => ?_)
  obtain ⟨rfl, M5, e5⟩ := hQ5
  show oG p e below _ T5 (mkF m 8 #[.val (.ref x1), .val (.ref o1), .val .null, .unset, .unset] [(.ref b1)])
  refine oS (fun t k => XS.astoreN X5.here hx rfl (hb hby dsw2_8) rfl rfl (l' := #[.val (.ref x1), .val (.ref o1), .val .null, .val (.ref b1), .unset]) rfl k) ?_
  show oG p e below _ T5 (mkF m 9 #[.val (.ref x1), .val (.ref o1), .val .null, .val (.ref b1), .unset] [])
  refine oS (fun t k => XS.aloadN X5.here hx rfl (hb hby dsw2_9) rfl rfl k) ?_
  show oG p e below _ T5 (mkF m 10 #[.val (.ref x1), .val (.ref o1), .val .null, .val (.ref b1), .unset] [(.ref o1)])
  refine own_callVC X5 hx hZ (y := (⟨"java/lang/AbstractStringBuilder", "length", "()I"⟩ : MethodName)) (z := (⟨"java/lang/StringBuilder", "length", "()I"⟩ : MethodName)) (W := 0) (kc := 0) (ks := 0) hown (oW hw 168 rfl) (oW hw 169 rfl) (own_nf (oW hw 129 rfl) rfl hZ) (oW hw 171 rfl) (oW hw 172 rfl) (own_back (W := 0) (rm_sl l Z a0 hw [] o1 (4 : Int32) h0 n0 Z0 E1 D1) hZ (oW hw 173 rfl) (oW hw 86 rfl) (by decide) (by decide)) (by decide) (b := o1) E1 (g := (mkF m 10 #[.val (.ref x1), .val (.ref o1), .val .null, .val (.ref b1), .unset] [(.ref o1)])) rfl (by rw [hml]; rfl) (argsL := []) (rest := []) (lenOf pd_8 rfl) rfl (by show 2 * 0 + _ ≤ _; exact Nat.le_of_eq rfl) (hb hby dsw2_10) rfl e5 (by decide) (by decide) (fun v10 T10 L10 X10 hQ10 => ?_)
  obtain ⟨rfl, M10, e10⟩ := hQ10
  show oG p e below _ T10 (mkF m 13 #[.val (.ref x1), .val (.ref o1), .val .null, .val (.ref b1), .unset] [(.int 4)])
  refine oS (fun t k => XS.istore X10.here hx rfl (hb hby dsw2_13) rfl (l' := #[.val (.ref x1), .val (.ref o1), .val .null, .val (.ref b1), .val (.int 4)]) rfl k) ?_
  show oG p e below _ T10 (mkF m 15 #[.val (.ref x1), .val (.ref o1), .val .null, .val (.ref b1), .val (.int 4)] [])
  refine oS (fun t k => XS.aloadN X10.here hx rfl (hb hby dsw2_15) rfl rfl k) ?_
  show oG p e below _ T10 (mkF m 16 #[.val (.ref x1), .val (.ref o1), .val .null, .val (.ref b1), .val (.int 4)] [(.ref o1)])
  refine own_callVC X10 hx hZ (y := (⟨"java/lang/AbstractStringBuilder", "isLatin1", "()Z"⟩ : MethodName)) (z := (⟨"java/lang/AbstractStringBuilder", "isLatin1", "()Z"⟩ : MethodName)) (W := 0) (kc := 0) (ks := 0) hown (oW hw 176 rfl) (oW hw 177 rfl) (own_nf (oW hw 129 rfl) rfl hZ) (oW hw 179 rfl) (oW hw 178 rfl) (own_back (W := 0) (rm_ab l Z a0 hw [] o1 CS h0 n0 Z0 C1 SC hCS) hZ (oW hw 180 rfl) (oW hw 94 rfl) (by decide) (by decide)) (by decide) (b := o1) E1 (g := (mkF m 16 #[.val (.ref x1), .val (.ref o1), .val .null, .val (.ref b1), .val (.int 4)] [(.ref o1)])) rfl (by rw [hml]; rfl) (argsL := []) (rest := []) (lenOf pd_17 rfl) rfl (by show 2 * 0 + _ ≤ _; exact Nat.le_of_eq rfl) (hb hby dsw2_16) rfl e10 (by decide) (by decide) (fun v16 T16 L16 X16 hQ16 => ?_)
  obtain ⟨rfl, M16, e16⟩ := hQ16
  have N16 := Fr.app (Fr.app (Fr.app N0 M5) M10) M16
  show oG p e below _ T16 (mkF m 19 #[.val (.ref x1), .val (.ref o1), .val .null, .val (.ref b1), .val (.int 4)] [(.int 1)])
  refine oS (fun t k => XS.ifNo X16.here hx rfl (hb hby dsw2_19) rfl ((if0 _ _).trans (feq (by decide : ¬ (1 : Int32) = 0)).1) k) ?_
  show oG p e below _ T16 (mkF m 22 #[.val (.ref x1), .val (.ref o1), .val .null, .val (.ref b1), .val (.int 4)] [])
  refine oS (fun t k => XS.aloadN X16.here hx rfl (hb hby dsw2_22) rfl rfl k) ?_
  refine oS (fun t k => XS.iconst X16.here hx rfl (hb hby dsw2_23) k) ?_
  show oG p e below _ T16 (mkF m 24 #[.val (.ref x1), .val (.ref o1), .val .null, .val (.ref b1), .val (.int 4)] [(.int 0), (.ref x1)])
  obtain ⟨T24, h24, X24, e24, W24, st24⟩ := putFN X16 hx hZ hown (oW hw 25 rfl) Via.refl e16 Cx Ex (Or.inr ⟨(oW hw 21 rfl), rfl, hnm⟩) (oW hw 5 rfl) (ty := .byte) (v' := (.int 0)) (by decide) rfl rfl (g := (mkF m 24 #[.val (.ref x1), .val (.ref o1), .val .null, .val (.ref b1), .val (.int 4)] [(.int 0), (.ref x1)])) rfl rfl (hb hby dsw2_24)
  refine oS st24 ?_
  have N24 := Fr.snoc X24 N16 gx
  have E24_o := Ex.wr W24
  have F24_value := Fx.other W24 (Or.inr (slot_ne (Or.inr (oW hw 20 rfl)) (Or.inr (oW hw 21 rfl)) (by decide) (t := (.array .byte)) (t' := .byte) (by decide) (by decide)))
  have F24_coder := Cx.same W24
  show oG p e below _ T24 (mkF m 27 #[.val (.ref x1), .val (.ref o1), .val .null, .val (.ref b1), .val (.int 4)] [])
  have Z24 : n0 ≤ h24.size := Nat.le_trans Z0 (Keep.of_wr W24).1
  have B24 := B1.other W24 hbx
  refine oS (fun t k => XS.aloadN X24.here hx rfl (hb hby dsw2_27) rfl rfl k) ?_
  refine oS (fun t k => XS.aloadN X24.here hx rfl (hb hby dsw2_28) rfl rfl k) ?_
  refine oS (fun t k => XS.iconst X24.here hx rfl (hb hby dsw2_29) k) ?_
  refine oS (fun t k => XS.iload X24.here hx rfl (hb hby dsw2_30) rfl  k) ?_
  show oG p e below _ T24 (mkF m 32 #[.val (.ref x1), .val (.ref o1), .val .null, .val (.ref b1), .val (.int 4)] [(.int 4), (.int 0), (.ref b1), (.ref x1)])
  refine own_callS X24 hx hZ (y := (⟨"java/util/Arrays", "copyOfRange", "([BII)[B"⟩ : MethodName)) (W := 1) (kc := 1) (ks := 4) hown (oW hw 181 rfl) (oW hw 182 rfl) (oW hw 183 rfl) (oW hw 184 rfl) (own_back (W := 1) (rm_cr4 l Z a0 hw [] b1 kb d0 d1 d2 d3 d4 d5 d6 d7 d8 d9 d10 d11 d12 d13 d14 d15 h24 n0 Z24 B24) hZ (oW hw 184 rfl) (oW hw 183 rfl) (by decide) (by decide)) (by decide) (g := (mkF m 32 #[.val (.ref x1), .val (.ref o1), .val .null, .val (.ref b1), .val (.int 4)] [(.int 4), (.int 0), (.ref b1), (.ref x1)])) rfl (by rw [hml]; rfl) (argsL := [(.ref b1), (.int 0), (.int 4)]) (rest := [(.ref x1)]) (lenOf pd_15 rfl) rfl (by show 2 * 0 + _ ≤ _; exact Nat.le_of_eq rfl) (hb hby dsw2_32) rfl e24 (by decide) (by decide) (fun v32 T32 L32 X32 hQ32 => ?_)
  obtain ⟨kc, rfl, M32, K32, B32⟩ := hQ32
  have N32 := Fr.app N24 M32
  have nr : h24.size ≠ x1 := Nat.ne_of_gt E24_o.lt
  show oG p e below _ T32 (mkF m 35 #[.val (.ref x1), .val (.ref o1), .val .null, .val (.ref b1), .val (.int 4)] [(.ref h24.size), (.ref x1)])
  obtain ⟨T35, h35, X35, e35, W35, st35⟩ := putF X32 hx hZ hown (host := "") (Or.inl (oW hw 24 rfl)) Via.refl rfl (F24_value.keep K32 nin0) (E24_o.keep K32) (Or.inr ⟨(oW hw 20 rfl), rfl, hnm⟩) (oW hw 5 rfl) (ty := (.array .byte)) (by decide) rfl rfl (g := (mkF m 35 #[.val (.ref x1), .val (.ref o1), .val .null, .val (.ref b1), .val (.int 4)] [(.ref h24.size), (.ref x1)])) rfl rfl (hb hby dsw2_35)
  refine oS st35 ?_
  have N35 := Fr.snoc X35 N32 gx
  have E35_o := (E24_o.keep K32).wr W35
  have F35_value := (F24_value.keep K32 nin0).same W35
  have F35_coder := (F24_coder.keep K32 nin0).other W35 (Or.inr (slot_ne (Or.inr (oW hw 21 rfl)) (Or.inr (oW hw 20 rfl)) (by decide) (t := .byte) (t' := (.array .byte)) (by decide) (by decide)))
  show oG p e below _ T35 (mkF m 38 #[.val (.ref x1), .val (.ref o1), .val .null, .val (.ref b1), .val (.int 4)] [])
  have B35 := B32.other W35 nr
  refine oS (fun t k => XS.goto X35.here hx rfl (pc0 := 38) (pc' := 97) rfl (hb hby dsw2_38) (by decide) (by decide) k) ?_
  show oG p e below _ T35 (mkF m 97 #[.val (.ref x1), .val (.ref o1), .val .null, .val (.ref b1), .val (.int 4)] [])
  refine own_retV X35 hx hlk hret (hb hby dsw2_97) ?_ (by decide) (by decide)
  rw [e35]
  exact ⟨rfl, N35, ((((Keep.refl h0 [x1]).wr W24 (Or.inl (List.mem_of_getElem? (i := 0) rfl))).trans K32 all0).wr W35 (Or.inl (List.mem_of_getElem? (i := 0) rfl))), E35_o, F35_coder, h24.size, kc, (Keep.of_wr W24).1, F35_value, B35⟩
theorem efsx4 (m : MethodId) (x0 : Addr) (x1 : Addr) : entryFrame m #[(.ref x0), (.ref x1)] 2 = mkF m 0 #[.val (.ref x0), .val (.ref x1)] [] := by first | (simp [entryFrame, mkF, argsToLocals, Value.category]; done) | rfl
set_option maxRecDepth 65536 in
set_option maxHeartbeats 40000000 in
theorem rm_sx4 (l : Launch) (Z : State) (a0 : Array Value) (hw : ∀ d ∈ tables_1, d.before a0 Z = true) (ws : List Jvm.Cond) (x1 : Addr) (o1 : Addr) (b1 : Addr) (kb : ClassId) (v0 : Value) (c0v : Value) (CS : Int32) (d0 : Value) (d1 : Value) (d2 : Value) (d3 : Value) (d4 : Value) (d5 : Value) (d6 : Value) (d7 : Value) (d8 : Value) (d9 : Value) (d10 : Value) (d11 : Value) (d12 : Value) (d13 : Value) (d14 : Value) (d15 : Value) (h0 : Heap) (n0 : Nat) (Z0 : n0 ≤ h0.size) (Ex : Exa Z h0 x1 "java/lang/String") (Fx : Fld Z h0 x1 "java/lang/String" "value" "[B" v0) (Cx : Fld Z h0 x1 "java/lang/String" "coder" "B" c0v) (gx : n0 ≤ x1) (E1 : Exa Z h0 o1 "java/lang/StringBuilder") (F1 : Fld Z h0 o1 "java/lang/AbstractStringBuilder" "value" "[B" (.ref b1)) (C1 : Fld Z h0 o1 "java/lang/AbstractStringBuilder" "coder" "B" (.int 0)) (D1 : Fld Z h0 o1 "java/lang/AbstractStringBuilder" "count" "I" (.int 4)) (B1 : Arv Z h0 b1 kb .byte (16 : Int32) [d0, d1, d2, d3, d4, d5, d6, d7, d8, d9, d10, d11, d12, d13, d14, d15] (.int 0)) (hxo : o1 ≠ x1) (SC : Sta Z h0 "java/lang/String" "COMPACT_STRINGS" "Z" (.int CS)) (hCS : ¬ CS = 0) (hbx : b1 ≠ x1) :
    own_Met l Z ws (⟨"java/lang/String", "<init>", "(Ljava/lang/StringBuilder;)V"⟩ : MethodName) jdk_42_method_53_code 2 none ({ frames := 4, cells := 1, slots := 4, locals := 80 } : Room) #[(.ref x1), (.ref o1)] h0 (fun v h L => v = none ∧ Fr n0 L ∧ Keep h0 h [x1] ∧ Exa Z h x1 "java/lang/String" ∧ Fld Z h x1 "java/lang/String" "coder" "B" (.int 0) ∧ ∃ (r : Addr) (kc : ClassId), h0.size ≤ r ∧ Fld Z h x1 "java/lang/String" "value" "[B" (.ref r) ∧ Arv Z h r kc .byte (4 : Int32) [d0, d1, d2, d3] (.int 0)) := by
  refine own_body (plainFor_of_name pn_2) ?_
  intro p e s m below meth c s₁ hx hby hml hret hlk hown hnm hZ X0 e0
  have hml : c.maxLocals = 2 := hml
  have hown : s.vm.findClass "java/lang/String" = some m.cls := hown
  have N0 := Fr.nil n0
  refine own_cast (efsx4 m x1 o1) ?_
  show oG p e below _ s₁ (mkF m 0 #[.val (.ref x1), .val (.ref o1)] [])
  refine oS (fun t k => XS.aloadN X0.here hx rfl (hb hby dsx2_0) rfl rfl k) ?_
  refine oS (fun t k => XS.aloadN X0.here hx rfl (hb hby dsx2_1) rfl rfl k) ?_
  refine oS (fun t k => XS.aconstNull X0.here hx rfl (hb hby dsx2_2) k) ?_
  show oG p e below _ s₁ (mkF m 3 #[.val (.ref x1), .val (.ref o1)] [.null, (.ref o1), (.ref x1)])
  refine own_callI X0 hx hZ (y := (⟨"java/lang/String", "<init>", "(Ljava/lang/AbstractStringBuilder;Ljava/lang/Void;)V"⟩ : MethodName)) (W := 0) (kc := 1) (ks := 4) rfl hown (oW hw 160 rfl) (oW hw 161 rfl) (oW hw 162 rfl) (own_back (W := 0) (rm_sw4 l Z a0 hw [] x1 o1 b1 kb v0 c0v CS d0 d1 d2 d3 d4 d5 d6 d7 d8 d9 d10 d11 d12 d13 d14 d15 h0 n0 Z0 Ex Fx Cx gx E1 F1 C1 D1 B1 hxo SC hCS hbx) hZ (oW hw 162 rfl) (oW hw 6 rfl) (by decide) (by decide)) (by decide) (g := (mkF m 3 #[.val (.ref x1), .val (.ref o1)] [.null, (.ref o1), (.ref x1)])) rfl (by rw [hml]; rfl) (a := x1) (argsL := [(.ref o1), .null]) (rest := []) (lenOf pd_18 rfl) rfl (by show 2 * 0 + _ ≤ _; exact Nat.le_of_eq rfl) (hb hby dsx2_3) rfl e0 (by decide) (by decide) (fun v3 T3 L3 X3 hQ3 => ?_)
  obtain ⟨rfl, M3, q⟩ := hQ3
  show oG p e below _ T3 (mkF m 6 #[.val (.ref x1), .val (.ref o1)] [])
  refine own_retV X3 hx hlk hret (hb hby dsx2_6) ?_ (by decide) (by decide)
  exact ⟨rfl, Fr.app N0 M3, q⟩
theorem efts4 (m : MethodId) (x0 : Addr) : entryFrame m #[(.ref x0)] 1 = mkF m 0 #[.val (.ref x0)] [] := by first | (simp [entryFrame, mkF, argsToLocals, Value.category]; done) | rfl
set_option maxRecDepth 65536 in
set_option maxHeartbeats 40000000 in
theorem rm_ts4 (l : Launch) (Z : State) (a0 : Array Value) (hw : ∀ d ∈ tables_1, d.before a0 Z = true) (ws : List Jvm.Cond) (o1 : Addr) (b1 : Addr) (kb : ClassId) (CS : Int32) (d0 : Value) (d1 : Value) (d2 : Value) (d3 : Value) (d4 : Value) (d5 : Value) (d6 : Value) (d7 : Value) (d8 : Value) (d9 : Value) (d10 : Value) (d11 : Value) (d12 : Value) (d13 : Value) (d14 : Value) (d15 : Value) (h0 : Heap) (n0 : Nat) (Z0 : n0 ≤ h0.size) (E1 : Exa Z h0 o1 "java/lang/StringBuilder") (F1 : Fld Z h0 o1 "java/lang/AbstractStringBuilder" "value" "[B" (.ref b1)) (C1 : Fld Z h0 o1 "java/lang/AbstractStringBuilder" "coder" "B" (.int 0)) (D1 : Fld Z h0 o1 "java/lang/AbstractStringBuilder" "count" "I" (.int 4)) (B1 : Arv Z h0 b1 kb .byte (16 : Int32) [d0, d1, d2, d3, d4, d5, d6, d7, d8, d9, d10, d11, d12, d13, d14, d15] (.int 0)) (SC : Sta Z h0 "java/lang/String" "COMPACT_STRINGS" "Z" (.int CS)) (hCS : ¬ CS = 0) :
    own_Met l Z ws (⟨"java/lang/StringBuilder", "toString", "()Ljava/lang/String;"⟩ : MethodName) jdk_67_method_42_code 1 (some (.object "java/lang/String")) ({ frames := 5, cells := 2, slots := 8, locals := 100 } : Room) #[(.ref o1)] h0 (fun v h L => ∃ (x r : Addr) (kc : ClassId), v = some (.ref x) ∧ Fr n0 L ∧ Keep h0 h [] ∧ h0.size ≤ x ∧ Exa Z h x "java/lang/String" ∧ Fld Z h x "java/lang/String" "coder" "B" (.int 0) ∧ Fld Z h x "java/lang/String" "value" "[B" (.ref r) ∧ Arv Z h r kc .byte (4 : Int32) [d0, d1, d2, d3] (.int 0)) := by
  refine own_body (plainFor_of_name pn_5) ?_
  intro p e s m below meth c s₁ hx hby hml hret hlk hown hnm hZ X0 e0
  have hml : c.maxLocals = 1 := hml
  have hown : s.vm.findClass "java/lang/StringBuilder" = some m.cls := hown
  have N0 := Fr.nil n0
  refine own_cast (efts4 m o1) ?_
  show oG p e below _ s₁ (mkF m 0 #[.val (.ref o1)] [])
  obtain ⟨Tq, hq, Xq, eq, Eq, Aq, Dq, -, stq⟩ := newO X0 hx hZ hown (oW hw 156 rfl) (oW hw 5 rfl) (oW hw 6 rfl) e0 (g := (mkF m 0 #[.val (.ref o1)] [])) rfl (hb hby dts2_0) (by decide) (by decide)
  obtain ⟨bq, gq⟩ : ∃ z, z = h0.size := ⟨_, rfl⟩
  rw [← gq] at Aq Dq stq
  have Fq_value : Fld Z hq bq "java/lang/String" "value" "[B" .null := Dq (Or.inr (oW hw 20 rfl)) (ty := (.array .byte)) (by decide)
  have Fq_coder : Fld Z hq bq "java/lang/String" "coder" "B" (.int 0) := Dq (Or.inr (oW hw 21 rfl)) (ty := .byte) (by decide)
  refine oS stq ?_
  show oG p e below _ Tq (mkF m 3 #[.val (.ref o1)] [(.ref bq)])
  have Zq : n0 ≤ hq.size := Nat.le_trans Z0 Eq.1
  have gx : n0 ≤ bq := Nat.le_trans Z0 (Nat.le_of_eq gq.symm)
  have ho : o1 ≠ bq := Nat.ne_of_lt (Nat.lt_of_lt_of_le E1.lt (Nat.le_of_eq gq.symm))
  have hbq : b1 ≠ bq := Nat.ne_of_lt (Nat.lt_of_lt_of_le B1.lt (Nat.le_of_eq gq.symm))
  refine oS (fun t k => XS.dup Xq.here hx rfl (hb hby dts2_3) rfl rfl k) ?_
  refine oS (fun t k => XS.aloadN Xq.here hx rfl (hb hby dts2_4) rfl rfl k) ?_
  show oG p e below _ Tq (mkF m 5 #[.val (.ref o1)] [(.ref o1), (.ref bq), (.ref bq)])
  refine own_callI Xq hx hZ (y := (⟨"java/lang/String", "<init>", "(Ljava/lang/StringBuilder;)V"⟩ : MethodName)) (W := 1) (kc := 1) (ks := 4) rfl hown (oW hw 157 rfl) (oW hw 158 rfl) (oW hw 159 rfl) (own_back (W := 1) (rm_sx4 l Z a0 hw [] bq o1 b1 kb _ _ CS d0 d1 d2 d3 d4 d5 d6 d7 d8 d9 d10 d11 d12 d13 d14 d15 hq n0 Zq Aq Fq_value Fq_coder gx (E1.ext Eq) (F1.ext Eq) (C1.ext Eq) (D1.ext Eq) (B1.ext Eq) ho (SC.ext Eq) hCS hbq) hZ (oW hw 159 rfl) (oW hw 6 rfl) (by decide) (by decide)) (by decide) (g := (mkF m 5 #[.val (.ref o1)] [(.ref o1), (.ref bq), (.ref bq)])) rfl (by rw [hml]; rfl) (a := bq) (argsL := [(.ref o1)]) (rest := [(.ref bq)]) (lenOf pd_19 rfl) rfl (by show 2 * 0 + _ ≤ _; exact Nat.le_of_eq rfl) (hb hby dts2_5) rfl eq (by decide) (by decide) (fun v5 T5 L5 X5 hQ5 => ?_)
  obtain ⟨rfl, M5, K5, q1, q2, r, kc, q3, q4, q5⟩ := hQ5
  show oG p e below _ T5 (mkF m 8 #[.val (.ref o1)] [(.ref bq)])
  refine own_retA X5 hx hlk hret rfl rfl (hb hby dts2_8) ?_ (by decide) (by decide)
  exact ⟨bq, r, kc, rfl, Fr.app N0 M5, ((Keep.refl h0 []).ext Eq).trans K5 (allS (Or.inr (Nat.le_of_eq gq.symm)) all0), Nat.le_of_eq gq.symm, q1, q2, q4, q5⟩
theorem efcl5 (m : MethodId) (x0 : Int32) (x1 : Int32) : entryFrame m #[(.int x0), (.int x1)] 2 = mkF m 0 #[.val (.int x0), .val (.int x1)] [] := by first | (simp [entryFrame, mkF, argsToLocals, Value.category]; done) | rfl
set_option maxRecDepth 65536 in
set_option maxHeartbeats 40000000 in
theorem rm_cl5 (l : Launch) (Z : State) (a0 : Array Value) (hw : ∀ d ∈ tables_1, d.before a0 Z = true) (ws : List Jvm.Cond) (h0 : Heap) (n0 : Nat) (Z0 : n0 ≤ h0.size) :
    own_Met l Z ws (⟨"java/util/Arrays", "checkLength", "(II)V"⟩ : MethodName) jdk_65_method_131_code 2 none ({ frames := 0, cells := 0, slots := 0, locals := 0 } : Room) #[(.int 0), (.int 5)] h0 (fun v h L => v = none ∧ Fr n0 L ∧ h = h0) := by
  refine own_body (plainFor_of_name pn_6) ?_
  intro p e s m below meth c s₁ hx hby hml hret hlk hown hnm hZ X0 e0
  have hml : c.maxLocals = 2 := hml
  have hown : s.vm.findClass "java/util/Arrays" = some m.cls := hown
  have N0 := Fr.nil n0
  refine own_cast (efcl5 m (0 : Int32) (5 : Int32)) ?_
  show oG p e below _ s₁ (mkF m 0 #[.val (.int 0), .val (.int 5)] [])
  refine oS (fun t k => XS.iloadN X0.here hx rfl (hb hby dcl2_0) rfl  k) ?_
  refine oS (fun t k => XS.iloadN X0.here hx rfl (hb hby dcl2_1) rfl  k) ?_
  show oG p e below _ s₁ (mkF m 2 #[.val (.int 0), .val (.int 5)] [(.int 0), (.int 5)])
  refine oS (fun t k => XS.icmpYes X0.here hx rfl (pc0 := 2) (pc' := 37) rfl (hb hby dcl2_2) rfl (flt (by decide : ¬ (5 : Int32) < 0)).2.1 (by decide) (by decide) k) ?_
  show oG p e below _ s₁ (mkF m 37 #[.val (.int 0), .val (.int 5)] [])
  refine own_retV X0 hx hlk hret (hb hby dcl2_37) ?_ (by decide) (by decide)
  rw [e0]
  exact ⟨rfl, N0, rfl⟩
theorem efcb5 (m : MethodId) (x0 : Addr) (x1 : Int32) (x2 : Int32) : entryFrame m #[(.ref x0), (.int x1), (.int x2)] 5 = mkF m 0 #[.val (.ref x0), .val (.int x1), .val (.int x2), .unset, .unset] [] := by first | (simp [entryFrame, mkF, argsToLocals, Value.category]; done) | rfl
set_option maxRecDepth 65536 in
set_option maxHeartbeats 40000000 in
theorem rm_cb5 (l : Launch) (Z : State) (a0 : Array Value) (hw : ∀ d ∈ tables_1, d.before a0 Z = true) (ws : List Jvm.Cond) (b1 : Addr) (kb : ClassId) (d0 : Value) (d1 : Value) (d2 : Value) (d3 : Value) (d4 : Value) (d5 : Value) (d6 : Value) (d7 : Value) (d8 : Value) (d9 : Value) (d10 : Value) (d11 : Value) (d12 : Value) (d13 : Value) (d14 : Value) (d15 : Value) (h0 : Heap) (n0 : Nat) (Z0 : n0 ≤ h0.size) (B1 : Arv Z h0 b1 kb .byte (16 : Int32) [d0, d1, d2, d3, d4, d5, d6, d7, d8, d9, d10, d11, d12, d13, d14, d15] (.int 0)) :
    own_Met l Z ws (⟨"java/util/Arrays", "copyOfRangeByte", "([BII)[B"⟩ : MethodName) jdk_65_method_133_code 5 (some (.array .byte)) ({ frames := 1, cells := 1, slots := 5, locals := 24 } : Room) #[(.ref b1), (.int 0), (.int 5)] h0 (fun v h L => ∃ kc, v = some (.ref h0.size) ∧ Fr n0 L ∧ Keep h0 h [] ∧ Arv Z h h0.size kc .byte (5 : Int32) [d0, d1, d2, d3, d4] (.int 0)) := by
  refine own_body (plainFor_of_name pn_6) ?_
  intro p e s m below meth c s₁ hx hby hml hret hlk hown hnm hZ X0 e0
  have hml : c.maxLocals = 5 := hml
  have hown : s.vm.findClass "java/util/Arrays" = some m.cls := hown
  have N0 := Fr.nil n0
  refine own_cast (efcb5 m b1 (0 : Int32) (5 : Int32)) ?_
  show oG p e below _ s₁ (mkF m 0 #[.val (.ref b1), .val (.int 0), .val (.int 5), .unset, .unset] [])
  refine oS (fun t k => XS.iloadN X0.here hx rfl (hb hby dcb2_0) rfl  k) ?_
  refine oS (fun t k => XS.iloadN X0.here hx rfl (hb hby dcb2_1) rfl  k) ?_
  show oG p e below _ s₁ (mkF m 2 #[.val (.ref b1), .val (.int 0), .val (.int 5), .unset, .unset] [(.int 5), (.int 0)])
  refine own_callS X0 hx hZ (y := (⟨"java/util/Arrays", "checkLength", "(II)V"⟩ : MethodName)) (W := 0) (kc := 0) (ks := 0) hown (oW hw 188 rfl) (oW hw 189 rfl) (oW hw 183 rfl) (oW hw 190 rfl) (own_back (W := 0) (rm_cl5 l Z a0 hw [] h0 n0 Z0) hZ (oW hw 190 rfl) (oW hw 183 rfl) (by decide) (by decide)) (by decide) (g := (mkF m 2 #[.val (.ref b1), .val (.int 0), .val (.int 5), .unset, .unset] [(.int 5), (.int 0)])) rfl (by rw [hml]; rfl) (argsL := [(.int 0), (.int 5)]) (rest := []) (lenOf pd_13 rfl) rfl (by show 2 * 0 + _ ≤ _; exact Nat.le_of_eq rfl) (hb hby dcb2_2) rfl e0 (by decide) (by decide) (fun v2 T2 L2 X2 hQ2 => ?_)
  obtain ⟨rfl, M2, e2⟩ := hQ2
  have N2 := Fr.app N0 M2
  show oG p e below _ T2 (mkF m 5 #[.val (.ref b1), .val (.int 0), .val (.int 5), .unset, .unset] [])
  refine oS (fun t k => XS.iloadN X2.here hx rfl (hb hby dcb2_5) rfl  k) ?_
  refine oS (fun t k => XS.iloadN X2.here hx rfl (hb hby dcb2_6) rfl  k) ?_
  refine oS (fun t k => XS.isub X2.here hx rfl (hb hby dcb2_7) rfl k) ?_
  show oG p e below _ T2 (mkF m 8 #[.val (.ref b1), .val (.int 0), .val (.int 5), .unset, .unset] [(.int ((5 : Int32) - (0 : Int32)))])
  show oG p e below _ T2 (mkF m 8 #[.val (.ref b1), .val (.int 0), .val (.int 5), .unset, .unset] [(.int 5)])
  refine oS (fun t k => XS.istoreN X2.here hx rfl (hb hby dcb2_8) rfl (l' := #[.val (.ref b1), .val (.int 0), .val (.int 5), .val (.int 5), .unset]) rfl k) ?_
  show oG p e below _ T2 (mkF m 9 #[.val (.ref b1), .val (.int 0), .val (.int 5), .val (.int 5), .unset] [])
  refine oS (fun t k => XS.iloadN X2.here hx rfl (hb hby dcb2_9) rfl  k) ?_
  show oG p e below _ T2 (mkF m 10 #[.val (.ref b1), .val (.int 0), .val (.int 5), .val (.int 5), .unset] [(.int 5)])
  obtain ⟨T10, h10, k10, X10, e10, E10, A10, st10⟩ := newP X2 hx hZ (oW hw 19 rfl) e2 (g := (mkF m 10 #[.val (.ref b1), .val (.int 0), .val (.int 5), .val (.int 5), .unset] [(.int 5)])) rfl (hb hby dcb2_10) rfl (by decide) (cap := 5) (by decide) (by decide) (by decide) (by decide)
  obtain ⟨b10, g10⟩ : ∃ z, z = h0.size := ⟨_, rfl⟩
  rw [← g10] at A10 st10
  have V10 : Arv Z h10 b10 k10 .byte (5 : Int32) [(.int 0), (.int 0), (.int 0), (.int 0), (.int 0)] (.int 0) := (Arv.new A10 (by decide)).pad (pad_rep [] (.int 0) 5)
  refine oS st10 ?_
  show oG p e below _ T10 (mkF m 12 #[.val (.ref b1), .val (.int 0), .val (.int 5), .val (.int 5), .unset] [(.ref b10)])
  subst g10
  have Z10 : n0 ≤ h10.size := Nat.le_trans Z0 E10.1
  have B10 := B1.ext E10
  show oG p e below _ T10 (mkF m 12 #[.val (.ref b1), .val (.int 0), .val (.int 5), .val (.int 5), .unset] [(.ref h0.size)])
  refine oS (fun t k => XS.astore X10.here hx rfl (hb hby dcb2_12) rfl rfl (l' := #[.val (.ref b1), .val (.int 0), .val (.int 5), .val (.int 5), .val (.ref h0.size)]) rfl k) ?_
  show oG p e below _ T10 (mkF m 14 #[.val (.ref b1), .val (.int 0), .val (.int 5), .val (.int 5), .val (.ref h0.size)] [])
  refine oS (fun t k => XS.aloadN X10.here hx rfl (hb hby dcb2_14) rfl rfl k) ?_
  refine oS (fun t k => XS.iloadN X10.here hx rfl (hb hby dcb2_15) rfl  k) ?_
  refine oS (fun t k => XS.aload X10.here hx rfl (hb hby dcb2_16) rfl rfl k) ?_
  refine oS (fun t k => XS.iconst X10.here hx rfl (hb hby dcb2_18) k) ?_
  refine oS (fun t k => XS.aloadN X10.here hx rfl (hb hby dcb2_19) rfl rfl k) ?_
  show oG p e below _ T10 (mkF m 20 #[.val (.ref b1), .val (.int 0), .val (.int 5), .val (.int 5), .val (.ref h0.size)] [(.ref b1), (.int 0), (.ref h0.size), (.int 0), (.ref b1)])
  obtain ⟨cl20, Ar20, -, S20, M20, -, -⟩ := id B10
  refine oS (X10.arraylength hx (by rw [e10]; exact Ar20.1) (State.isArrayOf_alike hZ.alike Ar20.2.1) (g := (mkF m 20 #[.val (.ref b1), .val (.int 0), .val (.int 5), .val (.int 5), .val (.ref h0.size)] [(.ref b1), (.int 0), (.ref h0.size), (.int 0), (.ref b1)])) rfl rfl (hb hby dcb2_20)) ?_
  rw [len_of S20 M20]
  show oG p e below _ T10 (mkF m 21 #[.val (.ref b1), .val (.int 0), .val (.int 5), .val (.int 5), .val (.ref h0.size)] [(.int 16), (.int 0), (.ref h0.size), (.int 0), (.ref b1)])
  refine oS (fun t k => XS.iloadN X10.here hx rfl (hb hby dcb2_21) rfl  k) ?_
  refine oS (fun t k => XS.isub X10.here hx rfl (hb hby dcb2_22) rfl k) ?_
  show oG p e below _ T10 (mkF m 23 #[.val (.ref b1), .val (.int 0), .val (.int 5), .val (.int 5), .val (.ref h0.size)] [(.int ((16 : Int32) - (0 : Int32))), (.int 0), (.ref h0.size), (.int 0), (.ref b1)])
  show oG p e below _ T10 (mkF m 23 #[.val (.ref b1), .val (.int 0), .val (.int 5), .val (.int 5), .val (.ref h0.size)] [(.int 16), (.int 0), (.ref h0.size), (.int 0), (.ref b1)])
  refine oS (fun t k => XS.iloadN X10.here hx rfl (hb hby dcb2_23) rfl  k) ?_
  show oG p e below _ T10 (mkF m 24 #[.val (.ref b1), .val (.int 0), .val (.int 5), .val (.int 5), .val (.ref h0.size)] [(.int 5), (.int 16), (.int 0), (.ref h0.size), (.int 0), (.ref b1)])
  refine own_callS X10 hx hZ (y := (⟨"java/lang/Math", "min", "(II)I"⟩ : MethodName)) (W := 4) (kc := 0) (ks := 0) hown (oW hw 191 rfl) (oW hw 192 rfl) (oW hw 193 rfl) (oW hw 194 rfl) (own_back (W := 4) (rm_mi l Z a0 hw [] (16 : Int32) (5 : Int32) h10 n0 Z10) hZ (oW hw 194 rfl) (oW hw 193 rfl) (by decide) (by decide)) (by decide) (g := (mkF m 24 #[.val (.ref b1), .val (.int 0), .val (.int 5), .val (.int 5), .val (.ref h0.size)] [(.int 5), (.int 16), (.int 0), (.ref h0.size), (.int 0), (.ref b1)])) rfl (by rw [hml]; rfl) (argsL := [(.int 16), (.int 5)]) (rest := [(.int 0), (.ref h0.size), (.int 0), (.ref b1)]) (lenOf pd_14 rfl) rfl (by show 2 * 0 + _ ≤ _; exact Nat.le_of_eq rfl) (hb hby dcb2_24) rfl e10 (by decide) (by decide) (fun v24 T24 L24 X24 hQ24 => ?_)
  obtain ⟨rfl, M24, e24⟩ := hQ24
  rw [(by decide : (if (5 : Int32) < 16 then (5 : Int32) else 16) = 5)]
  have N24 := Fr.app N2 M24
  show oG p e below _ T24 (mkF m 27 #[.val (.ref b1), .val (.int 0), .val (.int 5), .val (.int 5), .val (.ref h0.size)] [(.int 5), (.int 0), (.ref h0.size), (.int 0), (.ref b1)])
  obtain ⟨T27, h27, L27, X27, e27, N27, K27c, B27c, st27⟩ := cpA X24 hx hZ hown (oW hw 195 rfl) (oW hw 150 rfl) (oW hw 148 rfl) (oW hw 149 rfl) e24 B10 V10 (Or.inl ⟨rfl, rfl⟩) (by decide) (by decide) (by decide) (by decide) (by decide) rfl (Nat.le_of_ble_eq_true rfl) N24 Z0 (g := (mkF m 27 #[.val (.ref b1), .val (.int 0), .val (.int 5), .val (.int 5), .val (.ref h0.size)] [(.int 5), (.int 0), (.ref h0.size), (.int 0), (.ref b1)])) rfl (by rw [hml]; rfl) rfl (hb hby dcb2_27) (by decide) (W := 0) (by show 2 * 0 + _ ≤ _; exact Nat.le_of_eq rfl) (by decide)
  refine oS st27 ?_
  show oG p e below _ T27 (mkF m 30 #[.val (.ref b1), .val (.int 0), .val (.int 5), .val (.int 5), .val (.ref h0.size)] [])
  refine oS (fun t k => XS.aload X27.here hx rfl (hb hby dcb2_30) rfl rfl k) ?_
  show oG p e below _ T27 (mkF m 32 #[.val (.ref b1), .val (.int 0), .val (.int 5), .val (.int 5), .val (.ref h0.size)] [(.ref h0.size)])
  refine own_retA X27 hx hlk hret rfl rfl (hb hby dcb2_32) ?_ (by decide) (by decide)
  rw [e27]
  exact ⟨k10, rfl, N27, ((Keep.refl h0 []).ext E10).trans K27c (allS (Or.inr (Nat.le_refl _)) all0), B27c⟩
theorem efcr5 (m : MethodId) (x0 : Addr) (x1 : Int32) (x2 : Int32) : entryFrame m #[(.ref x0), (.int x1), (.int x2)] 3 = mkF m 0 #[.val (.ref x0), .val (.int x1), .val (.int x2)] [] := by first | (simp [entryFrame, mkF, argsToLocals, Value.category]; done) | rfl
set_option maxRecDepth 65536 in
set_option maxHeartbeats 40000000 in
theorem rm_cr5 (l : Launch) (Z : State) (a0 : Array Value) (hw : ∀ d ∈ tables_1, d.before a0 Z = true) (ws : List Jvm.Cond) (b1 : Addr) (kb : ClassId) (d0 : Value) (d1 : Value) (d2 : Value) (d3 : Value) (d4 : Value) (d5 : Value) (d6 : Value) (d7 : Value) (d8 : Value) (d9 : Value) (d10 : Value) (d11 : Value) (d12 : Value) (d13 : Value) (d14 : Value) (d15 : Value) (h0 : Heap) (n0 : Nat) (Z0 : n0 ≤ h0.size) (B1 : Arv Z h0 b1 kb .byte (16 : Int32) [d0, d1, d2, d3, d4, d5, d6, d7, d8, d9, d10, d11, d12, d13, d14, d15] (.int 0)) :
    own_Met l Z ws (⟨"java/util/Arrays", "copyOfRange", "([BII)[B"⟩ : MethodName) jdk_65_method_132_code 3 (some (.array .byte)) ({ frames := 2, cells := 1, slots := 5, locals := 40 } : Room) #[(.ref b1), (.int 0), (.int 5)] h0 (fun v h L => ∃ kc, v = some (.ref h0.size) ∧ Fr n0 L ∧ Keep h0 h [] ∧ Arv Z h h0.size kc .byte (5 : Int32) [d0, d1, d2, d3, d4] (.int 0)) := by
  refine own_body (plainFor_of_name pn_6) ?_
  intro p e s m below meth c s₁ hx hby hml hret hlk hown hnm hZ X0 e0
  have hml : c.maxLocals = 3 := hml
  have hown : s.vm.findClass "java/util/Arrays" = some m.cls := hown
  have N0 := Fr.nil n0
  refine own_cast (efcr5 m b1 (0 : Int32) (5 : Int32)) ?_
  show oG p e below _ s₁ (mkF m 0 #[.val (.ref b1), .val (.int 0), .val (.int 5)] [])
  refine oS (fun t k => XS.iloadN X0.here hx rfl (hb hby dcr2_0) rfl  k) ?_
  show oG p e below _ s₁ (mkF m 1 #[.val (.ref b1), .val (.int 0), .val (.int 5)] [(.int 0)])
  refine oS (fun t k => XS.ifNo X0.here hx rfl (hb hby dcr2_1) rfl ((if0 _ _).trans (teq (rfl : (0 : Int32) = 0)).2) k) ?_
  show oG p e below _ s₁ (mkF m 4 #[.val (.ref b1), .val (.int 0), .val (.int 5)] [])
  refine oS (fun t k => XS.iloadN X0.here hx rfl (hb hby dcr2_4) rfl  k) ?_
  refine oS (fun t k => XS.aloadN X0.here hx rfl (hb hby dcr2_5) rfl rfl k) ?_
  show oG p e below _ s₁ (mkF m 6 #[.val (.ref b1), .val (.int 0), .val (.int 5)] [(.ref b1), (.int 5)])
  obtain ⟨cl6, Ar6, -, S6, M6, -, -⟩ := id B1
  refine oS (X0.arraylength hx (by rw [e0]; exact Ar6.1) (State.isArrayOf_alike hZ.alike Ar6.2.1) (g := (mkF m 6 #[.val (.ref b1), .val (.int 0), .val (.int 5)] [(.ref b1), (.int 5)])) rfl rfl (hb hby dcr2_6)) ?_
  rw [len_of S6 M6]
  show oG p e below _ s₁ (mkF m 7 #[.val (.ref b1), .val (.int 0), .val (.int 5)] [(.int 16), (.int 5)])
  refine oS (fun t k => XS.icmpNo X0.here hx rfl (hb hby dcr2_7) rfl (feq (by decide : ¬ (5 : Int32) = 16)).1 k) ?_
  show oG p e below _ s₁ (mkF m 10 #[.val (.ref b1), .val (.int 0), .val (.int 5)] [])
  refine oS (fun t k => XS.aloadN X0.here hx rfl (hb hby dcr2_10) rfl rfl k) ?_
  refine oS (fun t k => XS.iloadN X0.here hx rfl (hb hby dcr2_11) rfl  k) ?_
  refine oS (fun t k => XS.iloadN X0.here hx rfl (hb hby dcr2_12) rfl  k) ?_
  show oG p e below _ s₁ (mkF m 13 #[.val (.ref b1), .val (.int 0), .val (.int 5)] [(.int 5), (.int 0), (.ref b1)])
  refine own_callS X0 hx hZ (y := (⟨"java/util/Arrays", "copyOfRangeByte", "([BII)[B"⟩ : MethodName)) (W := 0) (kc := 1) (ks := 5) hown (oW hw 185 rfl) (oW hw 186 rfl) (oW hw 183 rfl) (oW hw 187 rfl) (own_back (W := 0) (rm_cb5 l Z a0 hw [] b1 kb d0 d1 d2 d3 d4 d5 d6 d7 d8 d9 d10 d11 d12 d13 d14 d15 h0 n0 Z0 B1) hZ (oW hw 187 rfl) (oW hw 183 rfl) (by decide) (by decide)) (by decide) (g := (mkF m 13 #[.val (.ref b1), .val (.int 0), .val (.int 5)] [(.int 5), (.int 0), (.ref b1)])) rfl (by rw [hml]; rfl) (argsL := [(.ref b1), (.int 0), (.int 5)]) (rest := []) (lenOf pd_15 rfl) rfl (by show 2 * 0 + _ ≤ _; exact Nat.le_of_eq rfl) (hb hby dcr2_13) rfl e0 (by decide) (by decide) (fun v13 T13 L13 X13 hQ13 => ?_)
  obtain ⟨kc, rfl, M13, K13, B13⟩ := hQ13
  show oG p e below _ T13 (mkF m 16 #[.val (.ref b1), .val (.int 0), .val (.int 5)] [(.ref h0.size)])
  refine own_retA X13 hx hlk hret rfl rfl (hb hby dcr2_16) ?_ (by decide) (by decide)
  exact ⟨kc, rfl, Fr.app N0 M13, K13, B13⟩
theorem efsw5 (m : MethodId) (x0 : Addr) (x1 : Addr) : entryFrame m #[(.ref x0), (.ref x1), .null] 5 = mkF m 0 #[.val (.ref x0), .val (.ref x1), .val .null, .unset, .unset] [] := by first | (simp [entryFrame, mkF, argsToLocals, Value.category]; done) | rfl
set_option maxRecDepth 65536 in
set_option maxHeartbeats 40000000 in
theorem rm_sw5 (l : Launch) (Z : State) (a0 : Array Value) (hw : ∀ d ∈ tables_1, d.before a0 Z = true) (ws : List Jvm.Cond) (x1 : Addr) (o1 : Addr) (b1 : Addr) (kb : ClassId) (v0 : Value) (c0v : Value) (CS : Int32) (d0 : Value) (d1 : Value) (d2 : Value) (d3 : Value) (d4 : Value) (d5 : Value) (d6 : Value) (d7 : Value) (d8 : Value) (d9 : Value) (d10 : Value) (d11 : Value) (d12 : Value) (d13 : Value) (d14 : Value) (d15 : Value) (h0 : Heap) (n0 : Nat) (Z0 : n0 ≤ h0.size) (Ex : Exa Z h0 x1 "java/lang/String") (Fx : Fld Z h0 x1 "java/lang/String" "value" "[B" v0) (Cx : Fld Z h0 x1 "java/lang/String" "coder" "B" c0v) (gx : n0 ≤ x1) (E1 : Exa Z h0 o1 "java/lang/StringBuilder") (F1 : Fld Z h0 o1 "java/lang/AbstractStringBuilder" "value" "[B" (.ref b1)) (C1 : Fld Z h0 o1 "java/lang/AbstractStringBuilder" "coder" "B" (.int 0)) (D1 : Fld Z h0 o1 "java/lang/AbstractStringBuilder" "count" "I" (.int 5)) (B1 : Arv Z h0 b1 kb .byte (16 : Int32) [d0, d1, d2, d3, d4, d5, d6, d7, d8, d9, d10, d11, d12, d13, d14, d15] (.int 0)) (hxo : o1 ≠ x1) (SC : Sta Z h0 "java/lang/String" "COMPACT_STRINGS" "Z" (.int CS)) (hCS : ¬ CS = 0) (hbx : b1 ≠ x1) :
    own_Met l Z ws (⟨"java/lang/String", "<init>", "(Ljava/lang/AbstractStringBuilder;Ljava/lang/Void;)V"⟩ : MethodName) jdk_42_method_150_code 5 none ({ frames := 3, cells := 1, slots := 5, locals := 60 } : Room) #[(.ref x1), (.ref o1), .null] h0 (fun v h L => v = none ∧ Fr n0 L ∧ Keep h0 h [x1] ∧ Exa Z h x1 "java/lang/String" ∧ Fld Z h x1 "java/lang/String" "coder" "B" (.int 0) ∧ ∃ (r : Addr) (kc : ClassId), h0.size ≤ r ∧ Fld Z h x1 "java/lang/String" "value" "[B" (.ref r) ∧ Arv Z h r kc .byte (5 : Int32) [d0, d1, d2, d3, d4] (.int 0)) := by
  refine own_body (plainFor_of_name pn_2) ?_
  intro p e s m below meth c s₁ hx hby hml hret hlk hown hnm hZ X0 e0
  have hml : c.maxLocals = 5 := hml
  have hown : s.vm.findClass "java/lang/String" = some m.cls := hown
  have N0 := Fr.nil n0
  refine own_cast (efsw5 m x1 o1) ?_
  show oG p e below _ s₁ (mkF m 0 #[.val (.ref x1), .val (.ref o1), .val .null, .unset, .unset] [])
  refine oS (fun t k => XS.aloadN X0.here hx rfl (hb hby dsw2_0) rfl rfl k) ?_
  show oG p e below _ s₁ (mkF m 1 #[.val (.ref x1), .val (.ref o1), .val .null, .unset, .unset] [(.ref x1)])
  obtain ⟨T1, X1, e1, st1⟩ := initO X0 hx hZ hown (oW hw 15 rfl) (oW hw 16 rfl) (oW hw 17 rfl) e0 (g := (mkF m 1 #[.val (.ref x1), .val (.ref o1), .val .null, .unset, .unset] [(.ref x1)])) rfl (by rw [hml]; rfl) rfl (hb hby dsw2_1) (by decide) (W := 0) (by show 2 * 0 + _ ≤ _; exact Nat.le_of_eq rfl) (by decide)
  refine oS st1 ?_
  show oG p e below _ T1 (mkF m 4 #[.val (.ref x1), .val (.ref o1), .val .null, .unset, .unset] [])
  refine oS (fun t k => XS.aloadN X1.here hx rfl (hb hby dsw2_4) rfl rfl k) ?_
  show oG p e below _ T1 (mkF m 5 #[.val (.ref x1), .val (.ref o1), .val .null, .unset, .unset] [(.ref o1)])
  refine own_callVC X1 hx hZ (y := (⟨"java/lang/AbstractStringBuilder", "getValue", "()[B"⟩ : MethodName)) (z := (⟨"java/lang/AbstractStringBuilder", "getValue", "()[B"⟩ : MethodName)) (W := 0) (kc := 0) (ks := 0) hown (oW hw 163 rfl) (oW hw 164 rfl) (own_nf (oW hw 129 rfl) rfl hZ) (oW hw 166 rfl) (oW hw 165 rfl) (own_back (W := 0) (rm_gv l Z a0 hw [] o1 b1 h0 n0 Z0 F1) hZ (oW hw 167 rfl) (oW hw 94 rfl) (by decide) (by decide)) (by decide) (b := o1) E1 (g := (mkF m 5 #[.val (.ref x1), .val (.ref o1), .val .null, .unset, .unset] [(.ref o1)])) rfl (by rw [hml]; rfl) (argsL := []) (rest := []) (lenOf pd_16 rfl) rfl (by show 2 * 0 + _ ≤ _; exact Nat.le_of_eq rfl) (hb hby dsw2_5) rfl e1 (by decide) (by decide) (fun v5 T5 L5 X5 hQ5 => ?_)
  obtain ⟨rfl, M5, e5⟩ := hQ5
  show oG p e below _ T5 (mkF m 8 #[.val (.ref x1), .val (.ref o1), .val .null, .unset, .unset] [(.ref b1)])
  refine oS (fun t k => XS.astoreN X5.here hx rfl (hb hby dsw2_8) rfl rfl (l' := #[.val (.ref x1), .val (.ref o1), .val .null, .val (.ref b1), .unset]) rfl k) ?_
  show oG p e below _ T5 (mkF m 9 #[.val (.ref x1), .val (.ref o1), .val .null, .val (.ref b1), .unset] [])
  refine oS (fun t k => XS.aloadN X5.here hx rfl (hb hby dsw2_9) rfl rfl k) ?_
  show oG p e below _ T5 (mkF m 10 #[.val (.ref x1), .val (.ref o1), .val .null, .val (.ref b1), .unset] [(.ref o1)])
  refine own_callVC X5 hx hZ (y := (⟨"java/lang/AbstractStringBuilder", "length", "()I"⟩ : MethodName)) (z := (⟨"java/lang/StringBuilder", "length", "()I"⟩ : MethodName)) (W := 0) (kc := 0) (ks := 0) hown (oW hw 168 rfl) (oW hw 169 rfl) (own_nf (oW hw 129 rfl) rfl hZ) (oW hw 171 rfl) (oW hw 172 rfl) (own_back (W := 0) (rm_sl l Z a0 hw [] o1 (5 : Int32) h0 n0 Z0 E1 D1) hZ (oW hw 173 rfl) (oW hw 86 rfl) (by decide) (by decide)) (by decide) (b := o1) E1 (g := (mkF m 10 #[.val (.ref x1), .val (.ref o1), .val .null, .val (.ref b1), .unset] [(.ref o1)])) rfl (by rw [hml]; rfl) (argsL := []) (rest := []) (lenOf pd_8 rfl) rfl (by show 2 * 0 + _ ≤ _; exact Nat.le_of_eq rfl) (hb hby dsw2_10) rfl e5 (by decide) (by decide) (fun v10 T10 L10 X10 hQ10 => ?_)
  obtain ⟨rfl, M10, e10⟩ := hQ10
  show oG p e below _ T10 (mkF m 13 #[.val (.ref x1), .val (.ref o1), .val .null, .val (.ref b1), .unset] [(.int 5)])
  refine oS (fun t k => XS.istore X10.here hx rfl (hb hby dsw2_13) rfl (l' := #[.val (.ref x1), .val (.ref o1), .val .null, .val (.ref b1), .val (.int 5)]) rfl k) ?_
  show oG p e below _ T10 (mkF m 15 #[.val (.ref x1), .val (.ref o1), .val .null, .val (.ref b1), .val (.int 5)] [])
  refine oS (fun t k => XS.aloadN X10.here hx rfl (hb hby dsw2_15) rfl rfl k) ?_
  show oG p e below _ T10 (mkF m 16 #[.val (.ref x1), .val (.ref o1), .val .null, .val (.ref b1), .val (.int 5)] [(.ref o1)])
  refine own_callVC X10 hx hZ (y := (⟨"java/lang/AbstractStringBuilder", "isLatin1", "()Z"⟩ : MethodName)) (z := (⟨"java/lang/AbstractStringBuilder", "isLatin1", "()Z"⟩ : MethodName)) (W := 0) (kc := 0) (ks := 0) hown (oW hw 176 rfl) (oW hw 177 rfl) (own_nf (oW hw 129 rfl) rfl hZ) (oW hw 179 rfl) (oW hw 178 rfl) (own_back (W := 0) (rm_ab l Z a0 hw [] o1 CS h0 n0 Z0 C1 SC hCS) hZ (oW hw 180 rfl) (oW hw 94 rfl) (by decide) (by decide)) (by decide) (b := o1) E1 (g := (mkF m 16 #[.val (.ref x1), .val (.ref o1), .val .null, .val (.ref b1), .val (.int 5)] [(.ref o1)])) rfl (by rw [hml]; rfl) (argsL := []) (rest := []) (lenOf pd_17 rfl) rfl (by show 2 * 0 + _ ≤ _; exact Nat.le_of_eq rfl) (hb hby dsw2_16) rfl e10 (by decide) (by decide) (fun v16 T16 L16 X16 hQ16 => ?_)
  obtain ⟨rfl, M16, e16⟩ := hQ16
  have N16 := Fr.app (Fr.app (Fr.app N0 M5) M10) M16
  show oG p e below _ T16 (mkF m 19 #[.val (.ref x1), .val (.ref o1), .val .null, .val (.ref b1), .val (.int 5)] [(.int 1)])
  refine oS (fun t k => XS.ifNo X16.here hx rfl (hb hby dsw2_19) rfl ((if0 _ _).trans (feq (by decide : ¬ (1 : Int32) = 0)).1) k) ?_
  show oG p e below _ T16 (mkF m 22 #[.val (.ref x1), .val (.ref o1), .val .null, .val (.ref b1), .val (.int 5)] [])
  refine oS (fun t k => XS.aloadN X16.here hx rfl (hb hby dsw2_22) rfl rfl k) ?_
  refine oS (fun t k => XS.iconst X16.here hx rfl (hb hby dsw2_23) k) ?_
  show oG p e below _ T16 (mkF m 24 #[.val (.ref x1), .val (.ref o1), .val .null, .val (.ref b1), .val (.int 5)] [(.int 0), (.ref x1)])
  obtain ⟨T24, h24, X24, e24, W24, st24⟩ := putFN X16 hx hZ hown (oW hw 25 rfl) Via.refl e16 Cx Ex (Or.inr ⟨(oW hw 21 rfl), rfl, hnm⟩) (oW hw 5 rfl) (ty := .byte) (v' := (.int 0)) (by decide) rfl rfl (g := (mkF m 24 #[.val (.ref x1), .val (.ref o1), .val .null, .val (.ref b1), .val (.int 5)] [(.int 0), (.ref x1)])) rfl rfl (hb hby dsw2_24)
  refine oS st24 ?_
  have N24 := Fr.snoc X24 N16 gx
  have E24_o := Ex.wr W24
  have F24_value := Fx.other W24 (Or.inr (slot_ne (Or.inr (oW hw 20 rfl)) (Or.inr (oW hw 21 rfl)) (by decide) (t := (.array .byte)) (t' := .byte) (by decide) (by decide)))
  have F24_coder := Cx.same W24
  show oG p e below _ T24 (mkF m 27 #[.val (.ref x1), .val (.ref o1), .val .null, .val (.ref b1), .val (.int 5)] [])
  have Z24 : n0 ≤ h24.size := Nat.le_trans Z0 (Keep.of_wr W24).1
  have B24 := B1.other W24 hbx
  refine oS (fun t k => XS.aloadN X24.here hx rfl (hb hby dsw2_27) rfl rfl k) ?_
  refine oS (fun t k => XS.aloadN X24.here hx rfl (hb hby dsw2_28) rfl rfl k) ?_
  refine oS (fun t k => XS.iconst X24.here hx rfl (hb hby dsw2_29) k) ?_
  refine oS (fun t k => XS.iload X24.here hx rfl (hb hby dsw2_30) rfl  k) ?_
  show oG p e below _ T24 (mkF m 32 #[.val (.ref x1), .val (.ref o1), .val .null, .val (.ref b1), .val (.int 5)] [(.int 5), (.int 0), (.ref b1), (.ref x1)])
  refine own_callS X24 hx hZ (y := (⟨"java/util/Arrays", "copyOfRange", "([BII)[B"⟩ : MethodName)) (W := 1) (kc := 1) (ks := 5) hown (oW hw 181 rfl) (oW hw 182 rfl) (oW hw 183 rfl) (oW hw 184 rfl) (own_back (W := 1) (rm_cr5 l Z a0 hw [] b1 kb d0 d1 d2 d3 d4 d5 d6 d7 d8 d9 d10 d11 d12 d13 d14 d15 h24 n0 Z24 B24) hZ (oW hw 184 rfl) (oW hw 183 rfl) (by decide) (by decide)) (by decide) (g := (mkF m 32 #[.val (.ref x1), .val (.ref o1), .val .null, .val (.ref b1), .val (.int 5)] [(.int 5), (.int 0), (.ref b1), (.ref x1)])) rfl (by rw [hml]; rfl) (argsL := [(.ref b1), (.int 0), (.int 5)]) (rest := [(.ref x1)]) (lenOf pd_15 rfl) rfl (by show 2 * 0 + _ ≤ _; exact Nat.le_of_eq rfl) (hb hby dsw2_32) rfl e24 (by decide) (by decide) (fun v32 T32 L32 X32 hQ32 => ?_)
  obtain ⟨kc, rfl, M32, K32, B32⟩ := hQ32
  have N32 := Fr.app N24 M32
  have nr : h24.size ≠ x1 := Nat.ne_of_gt E24_o.lt
  show oG p e below _ T32 (mkF m 35 #[.val (.ref x1), .val (.ref o1), .val .null, .val (.ref b1), .val (.int 5)] [(.ref h24.size), (.ref x1)])
  obtain ⟨T35, h35, X35, e35, W35, st35⟩ := putF X32 hx hZ hown (host := "") (Or.inl (oW hw 24 rfl)) Via.refl rfl (F24_value.keep K32 nin0) (E24_o.keep K32) (Or.inr ⟨(oW hw 20 rfl), rfl, hnm⟩) (oW hw 5 rfl) (ty := (.array .byte)) (by decide) rfl rfl (g := (mkF m 35 #[.val (.ref x1), .val (.ref o1), .val .null, .val (.ref b1), .val (.int 5)] [(.ref h24.size), (.ref x1)])) rfl rfl (hb hby dsw2_35)
  refine oS st35 ?_
  have N35 := Fr.snoc X35 N32 gx
  have E35_o := (E24_o.keep K32).wr W35
  have F35_value := (F24_value.keep K32 nin0).same W35
  have F35_coder := (F24_coder.keep K32 nin0).other W35 (Or.inr (slot_ne (Or.inr (oW hw 21 rfl)) (Or.inr (oW hw 20 rfl)) (by decide) (t := .byte) (t' := (.array .byte)) (by decide) (by decide)))
  show oG p e below _ T35 (mkF m 38 #[.val (.ref x1), .val (.ref o1), .val .null, .val (.ref b1), .val (.int 5)] [])
  have B35 := B32.other W35 nr
  refine oS (fun t k => XS.goto X35.here hx rfl (pc0 := 38) (pc' := 97) rfl (hb hby dsw2_38) (by decide) (by decide) k) ?_
  show oG p e below _ T35 (mkF m 97 #[.val (.ref x1), .val (.ref o1), .val .null, .val (.ref b1), .val (.int 5)] [])
  refine own_retV X35 hx hlk hret (hb hby dsw2_97) ?_ (by decide) (by decide)
  rw [e35]
  exact ⟨rfl, N35, ((((Keep.refl h0 [x1]).wr W24 (Or.inl (List.mem_of_getElem? (i := 0) rfl))).trans K32 all0).wr W35 (Or.inl (List.mem_of_getElem? (i := 0) rfl))), E35_o, F35_coder, h24.size, kc, (Keep.of_wr W24).1, F35_value, B35⟩
theorem efsx5 (m : MethodId) (x0 : Addr) (x1 : Addr) : entryFrame m #[(.ref x0), (.ref x1)] 2 = mkF m 0 #[.val (.ref x0), .val (.ref x1)] [] := by first | (simp [entryFrame, mkF, argsToLocals, Value.category]; done) | rfl
set_option maxRecDepth 65536 in
set_option maxHeartbeats 40000000 in
theorem rm_sx5 (l : Launch) (Z : State) (a0 : Array Value) (hw : ∀ d ∈ tables_1, d.before a0 Z = true) (ws : List Jvm.Cond) (x1 : Addr) (o1 : Addr) (b1 : Addr) (kb : ClassId) (v0 : Value) (c0v : Value) (CS : Int32) (d0 : Value) (d1 : Value) (d2 : Value) (d3 : Value) (d4 : Value) (d5 : Value) (d6 : Value) (d7 : Value) (d8 : Value) (d9 : Value) (d10 : Value) (d11 : Value) (d12 : Value) (d13 : Value) (d14 : Value) (d15 : Value) (h0 : Heap) (n0 : Nat) (Z0 : n0 ≤ h0.size) (Ex : Exa Z h0 x1 "java/lang/String") (Fx : Fld Z h0 x1 "java/lang/String" "value" "[B" v0) (Cx : Fld Z h0 x1 "java/lang/String" "coder" "B" c0v) (gx : n0 ≤ x1) (E1 : Exa Z h0 o1 "java/lang/StringBuilder") (F1 : Fld Z h0 o1 "java/lang/AbstractStringBuilder" "value" "[B" (.ref b1)) (C1 : Fld Z h0 o1 "java/lang/AbstractStringBuilder" "coder" "B" (.int 0)) (D1 : Fld Z h0 o1 "java/lang/AbstractStringBuilder" "count" "I" (.int 5)) (B1 : Arv Z h0 b1 kb .byte (16 : Int32) [d0, d1, d2, d3, d4, d5, d6, d7, d8, d9, d10, d11, d12, d13, d14, d15] (.int 0)) (hxo : o1 ≠ x1) (SC : Sta Z h0 "java/lang/String" "COMPACT_STRINGS" "Z" (.int CS)) (hCS : ¬ CS = 0) (hbx : b1 ≠ x1) :
    own_Met l Z ws (⟨"java/lang/String", "<init>", "(Ljava/lang/StringBuilder;)V"⟩ : MethodName) jdk_42_method_53_code 2 none ({ frames := 4, cells := 1, slots := 5, locals := 80 } : Room) #[(.ref x1), (.ref o1)] h0 (fun v h L => v = none ∧ Fr n0 L ∧ Keep h0 h [x1] ∧ Exa Z h x1 "java/lang/String" ∧ Fld Z h x1 "java/lang/String" "coder" "B" (.int 0) ∧ ∃ (r : Addr) (kc : ClassId), h0.size ≤ r ∧ Fld Z h x1 "java/lang/String" "value" "[B" (.ref r) ∧ Arv Z h r kc .byte (5 : Int32) [d0, d1, d2, d3, d4] (.int 0)) := by
  refine own_body (plainFor_of_name pn_2) ?_
  intro p e s m below meth c s₁ hx hby hml hret hlk hown hnm hZ X0 e0
  have hml : c.maxLocals = 2 := hml
  have hown : s.vm.findClass "java/lang/String" = some m.cls := hown
  have N0 := Fr.nil n0
  refine own_cast (efsx5 m x1 o1) ?_
  show oG p e below _ s₁ (mkF m 0 #[.val (.ref x1), .val (.ref o1)] [])
  refine oS (fun t k => XS.aloadN X0.here hx rfl (hb hby dsx2_0) rfl rfl k) ?_
  refine oS (fun t k => XS.aloadN X0.here hx rfl (hb hby dsx2_1) rfl rfl k) ?_
  refine oS (fun t k => XS.aconstNull X0.here hx rfl (hb hby dsx2_2) k) ?_
  show oG p e below _ s₁ (mkF m 3 #[.val (.ref x1), .val (.ref o1)] [.null, (.ref o1), (.ref x1)])
  refine own_callI X0 hx hZ (y := (⟨"java/lang/String", "<init>", "(Ljava/lang/AbstractStringBuilder;Ljava/lang/Void;)V"⟩ : MethodName)) (W := 0) (kc := 1) (ks := 5) rfl hown (oW hw 160 rfl) (oW hw 161 rfl) (oW hw 162 rfl) (own_back (W := 0) (rm_sw5 l Z a0 hw [] x1 o1 b1 kb v0 c0v CS d0 d1 d2 d3 d4 d5 d6 d7 d8 d9 d10 d11 d12 d13 d14 d15 h0 n0 Z0 Ex Fx Cx gx E1 F1 C1 D1 B1 hxo SC hCS hbx) hZ (oW hw 162 rfl) (oW hw 6 rfl) (by decide) (by decide)) (by decide) (g := (mkF m 3 #[.val (.ref x1), .val (.ref o1)] [.null, (.ref o1), (.ref x1)])) rfl (by rw [hml]; rfl) (a := x1) (argsL := [(.ref o1), .null]) (rest := []) (lenOf pd_18 rfl) rfl (by show 2 * 0 + _ ≤ _; exact Nat.le_of_eq rfl) (hb hby dsx2_3) rfl e0 (by decide) (by decide) (fun v3 T3 L3 X3 hQ3 => ?_)
  obtain ⟨rfl, M3, q⟩ := hQ3
  show oG p e below _ T3 (mkF m 6 #[.val (.ref x1), .val (.ref o1)] [])
  refine own_retV X3 hx hlk hret (hb hby dsx2_6) ?_ (by decide) (by decide)
  exact ⟨rfl, Fr.app N0 M3, q⟩
theorem efts5 (m : MethodId) (x0 : Addr) : entryFrame m #[(.ref x0)] 1 = mkF m 0 #[.val (.ref x0)] [] := by first | (simp [entryFrame, mkF, argsToLocals, Value.category]; done) | rfl
set_option maxRecDepth 65536 in
set_option maxHeartbeats 40000000 in
theorem rm_ts5 (l : Launch) (Z : State) (a0 : Array Value) (hw : ∀ d ∈ tables_1, d.before a0 Z = true) (ws : List Jvm.Cond) (o1 : Addr) (b1 : Addr) (kb : ClassId) (CS : Int32) (d0 : Value) (d1 : Value) (d2 : Value) (d3 : Value) (d4 : Value) (d5 : Value) (d6 : Value) (d7 : Value) (d8 : Value) (d9 : Value) (d10 : Value) (d11 : Value) (d12 : Value) (d13 : Value) (d14 : Value) (d15 : Value) (h0 : Heap) (n0 : Nat) (Z0 : n0 ≤ h0.size) (E1 : Exa Z h0 o1 "java/lang/StringBuilder") (F1 : Fld Z h0 o1 "java/lang/AbstractStringBuilder" "value" "[B" (.ref b1)) (C1 : Fld Z h0 o1 "java/lang/AbstractStringBuilder" "coder" "B" (.int 0)) (D1 : Fld Z h0 o1 "java/lang/AbstractStringBuilder" "count" "I" (.int 5)) (B1 : Arv Z h0 b1 kb .byte (16 : Int32) [d0, d1, d2, d3, d4, d5, d6, d7, d8, d9, d10, d11, d12, d13, d14, d15] (.int 0)) (SC : Sta Z h0 "java/lang/String" "COMPACT_STRINGS" "Z" (.int CS)) (hCS : ¬ CS = 0) :
    own_Met l Z ws (⟨"java/lang/StringBuilder", "toString", "()Ljava/lang/String;"⟩ : MethodName) jdk_67_method_42_code 1 (some (.object "java/lang/String")) ({ frames := 5, cells := 2, slots := 9, locals := 100 } : Room) #[(.ref o1)] h0 (fun v h L => ∃ (x r : Addr) (kc : ClassId), v = some (.ref x) ∧ Fr n0 L ∧ Keep h0 h [] ∧ h0.size ≤ x ∧ Exa Z h x "java/lang/String" ∧ Fld Z h x "java/lang/String" "coder" "B" (.int 0) ∧ Fld Z h x "java/lang/String" "value" "[B" (.ref r) ∧ Arv Z h r kc .byte (5 : Int32) [d0, d1, d2, d3, d4] (.int 0)) := by
  refine own_body (plainFor_of_name pn_5) ?_
  intro p e s m below meth c s₁ hx hby hml hret hlk hown hnm hZ X0 e0
  have hml : c.maxLocals = 1 := hml
  have hown : s.vm.findClass "java/lang/StringBuilder" = some m.cls := hown
  have N0 := Fr.nil n0
  refine own_cast (efts5 m o1) ?_
  show oG p e below _ s₁ (mkF m 0 #[.val (.ref o1)] [])
  obtain ⟨Tq, hq, Xq, eq, Eq, Aq, Dq, -, stq⟩ := newO X0 hx hZ hown (oW hw 156 rfl) (oW hw 5 rfl) (oW hw 6 rfl) e0 (g := (mkF m 0 #[.val (.ref o1)] [])) rfl (hb hby dts2_0) (by decide) (by decide)
  obtain ⟨bq, gq⟩ : ∃ z, z = h0.size := ⟨_, rfl⟩
  rw [← gq] at Aq Dq stq
  have Fq_value : Fld Z hq bq "java/lang/String" "value" "[B" .null := Dq (Or.inr (oW hw 20 rfl)) (ty := (.array .byte)) (by decide)
  have Fq_coder : Fld Z hq bq "java/lang/String" "coder" "B" (.int 0) := Dq (Or.inr (oW hw 21 rfl)) (ty := .byte) (by decide)
  refine oS stq ?_
  show oG p e below _ Tq (mkF m 3 #[.val (.ref o1)] [(.ref bq)])
  have Zq : n0 ≤ hq.size := Nat.le_trans Z0 Eq.1
  have gx : n0 ≤ bq := Nat.le_trans Z0 (Nat.le_of_eq gq.symm)
  have ho : o1 ≠ bq := Nat.ne_of_lt (Nat.lt_of_lt_of_le E1.lt (Nat.le_of_eq gq.symm))
  have hbq : b1 ≠ bq := Nat.ne_of_lt (Nat.lt_of_lt_of_le B1.lt (Nat.le_of_eq gq.symm))
  refine oS (fun t k => XS.dup Xq.here hx rfl (hb hby dts2_3) rfl rfl k) ?_
  refine oS (fun t k => XS.aloadN Xq.here hx rfl (hb hby dts2_4) rfl rfl k) ?_
  show oG p e below _ Tq (mkF m 5 #[.val (.ref o1)] [(.ref o1), (.ref bq), (.ref bq)])
  refine own_callI Xq hx hZ (y := (⟨"java/lang/String", "<init>", "(Ljava/lang/StringBuilder;)V"⟩ : MethodName)) (W := 1) (kc := 1) (ks := 5) rfl hown (oW hw 157 rfl) (oW hw 158 rfl) (oW hw 159 rfl) (own_back (W := 1) (rm_sx5 l Z a0 hw [] bq o1 b1 kb _ _ CS d0 d1 d2 d3 d4 d5 d6 d7 d8 d9 d10 d11 d12 d13 d14 d15 hq n0 Zq Aq Fq_value Fq_coder gx (E1.ext Eq) (F1.ext Eq) (C1.ext Eq) (D1.ext Eq) (B1.ext Eq) ho (SC.ext Eq) hCS hbq) hZ (oW hw 159 rfl) (oW hw 6 rfl) (by decide) (by decide)) (by decide) (g := (mkF m 5 #[.val (.ref o1)] [(.ref o1), (.ref bq), (.ref bq)])) rfl (by rw [hml]; rfl) (a := bq) (argsL := [(.ref o1)]) (rest := [(.ref bq)]) (lenOf pd_19 rfl) rfl (by show 2 * 0 + _ ≤ _; exact Nat.le_of_eq rfl) (hb hby dts2_5) rfl eq (by decide) (by decide) (fun v5 T5 L5 X5 hQ5 => ?_)
  obtain ⟨rfl, M5, K5, q1, q2, r, kc, q3, q4, q5⟩ := hQ5
  show oG p e below _ T5 (mkF m 8 #[.val (.ref o1)] [(.ref bq)])
  refine own_retA X5 hx hlk hret rfl rfl (hb hby dts2_8) ?_ (by decide) (by decide)
  exact ⟨bq, r, kc, rfl, Fr.app N0 M5, ((Keep.refl h0 []).ext Eq).trans K5 (allS (Or.inr (Nat.le_of_eq gq.symm)) all0), Nat.le_of_eq gq.symm, q1, q2, q4, q5⟩
theorem did0_0 : decode prog_15_method_9_code 0 = .ok (.aload_n 0, 1) := by decide +kernel
theorem did0_1 : decode prog_15_method_9_code 1 = .ok (.getfield 7, 3) := by decide +kernel
theorem did0_4 : decode prog_15_method_9_code 4 = .ok (.getstatic 40, 3) := by decide +kernel
theorem did0_7 : decode prog_15_method_9_code 7 = .ok (.if_acmp .ne 28, 3) := by decide +kernel
theorem did0_10 : decode prog_15_method_9_code 10 = .ok (.new 57, 3) := by decide +kernel
theorem did0_13 : decode prog_15_method_9_code 13 = .ok (.dup, 1) := by decide +kernel
theorem did0_14 : decode prog_15_method_9_code 14 = .ok (.invokespecial 59, 3) := by decide +kernel
theorem did0_17 : decode prog_15_method_9_code 17 = .ok (.ldc 60, 2) := by decide +kernel
theorem did0_19 : decode prog_15_method_9_code 19 = .ok (.invokevirtual 62, 3) := by decide +kernel
theorem did0_22 : decode prog_15_method_9_code 22 = .ok (.aload_n 0, 1) := by decide +kernel
theorem did0_23 : decode prog_15_method_9_code 23 = .ok (.getfield 23, 3) := by decide +kernel
theorem did0_26 : decode prog_15_method_9_code 26 = .ok (.invokevirtual 62, 3) := by decide +kernel
theorem did0_29 : decode prog_15_method_9_code 29 = .ok (.invokevirtual 66, 3) := by decide +kernel
theorem did0_32 : decode prog_15_method_9_code 32 = .ok (.goto 7, 3) := by decide +kernel
theorem did0_35 : decode prog_15_method_9_code 35 = .ok (.aload_n 0, 1) := by decide +kernel
theorem did0_36 : decode prog_15_method_9_code 36 = .ok (.getfield 23, 3) := by decide +kernel
theorem did0_39 : decode prog_15_method_9_code 39 = .ok (.areturn, 1) := by decide +kernel
theorem efid0 (m : MethodId) (x0 : Addr) : entryFrame m #[(.ref x0)] 1 = mkF m 0 #[.val (.ref x0)] [] := by first | (simp [entryFrame, mkF, argsToLocals, Value.category]; done) | rfl
theorem pd_20 : parseMethodDescriptor "()V" = some ⟨[], none⟩ := by decide +kernel
theorem pd_21 : parseMethodDescriptor "(Ljava/lang/String;)Ljava/lang/StringBuilder;" = some ⟨[(.object "java/lang/String")], some (.object "java/lang/StringBuilder")⟩ := by decide +kernel
theorem pd_22 : parseMethodDescriptor "()Ljava/lang/String;" = some ⟨[], some (.object "java/lang/String")⟩ := by decide +kernel
set_option maxRecDepth 65536 in
set_option maxHeartbeats 40000000 in
theorem rm_id0 (l : Launch) (Z : State) (a0 : Array Value) (hw : ∀ d ∈ tables_1, d.before a0 Z = true) (ws : List Jvm.Cond) (t1 : Addr) (k1 : Addr) (s1 : Addr) (CS : Int32) (h0 : Heap) (n0 : Nat) (Z0 : n0 ≤ h0.size) (hE : EW Z a0 consts_1) (wS : ∀ a ∈ Bundle.stringAtoms, a.before a0 Z = true) (A1 : Fld Z h0 t1 "com/example/rank3/rank3/graph/Term" "kind" "Lcom/example/rank3/rank3/graph/Term$Kind;" (.ref k1)) (B1 : Fld Z h0 t1 "com/example/rank3/rank3/graph/Term" "value" "Ljava/lang/String;" (.ref s1)) (L1 : own_Lat Z h0 s1 ([] : List Int32)) (hp : ∀ c ∈ ([] : List Int32), ¬ c < 0 ∧ ¬ (255 : Int32) < c) (SB : Sta Z h0 "com/example/rank3/rank3/graph/Term$Kind" "BLANK_NODE" "Lcom/example/rank3/rank3/graph/Term$Kind;" (.ref k1)) (SC : Sta Z h0 "java/lang/String" "COMPACT_STRINGS" "Z" (.int CS)) (hCS : ¬ CS = 0) :
    own_MetH l Z consts_1 ws (⟨"com/example/rank3/rank3/graph/Term", "id", "()Ljava/lang/String;"⟩ : MethodName) prog_15_method_9_code 1 (some (.object "java/lang/String")) ({ frames := 6, cells := 7, slots := 60, locals := 125 } : Room) #[(.ref t1)] h0 (fun v h L => ∃ x : Addr, v = some (.ref x) ∧ Fr n0 L ∧ Keep h0 h [] ∧ own_Lat Z h x ((95 : Int32) :: (58 : Int32) :: ([] : List Int32))) (fun _ => True) := by
  refine own_bodyH (plainFor_of_name pn_1) hE ?_
  intro p e s m below meth c s₁ hx hby hml hret hlk hown hnm X0 e0 K0 hPv
  have hZ : Z.Warmed39 s.vm := K0.1
  have hml : c.maxLocals = 1 := hml
  have hown : s.vm.findClass "com/example/rank3/rank3/graph/Term" = some m.cls := hown
  have N0 := Fr.nil n0
  obtain ⟨u1, ku, Es, Vs, Cs, At⟩ := id L1
  refine own_cast (efid0 m t1) ?_
  show oG p e below _ s₁ (mkF m 0 #[.val (.ref t1)] [])
  refine oS (fun t k => XS.aloadN X0.here hx rfl (hb hby did0_0) rfl rfl k) ?_
  show oG p e below _ s₁ (mkF m 1 #[.val (.ref t1)] [(.ref t1)])
  obtain ⟨T1, X1, e1, st1⟩ := getF X0 hx hZ hown (host := "") (Or.inl (oW hw 39 rfl)) Via.refl e0 A1 (g := (mkF m 1 #[.val (.ref t1)] [(.ref t1)])) rfl rfl (hb hby did0_1)
  refine oS st1 ?_
  show oG p e below _ T1 (mkF m 4 #[.val (.ref t1)] [(.ref k1)])
  obtain ⟨T4, X4, e4, st4⟩ := getS2 X1 hx hZ hown (host := "") (Or.inl (oW hw 32 rfl)) Via.refl e1 SB (g := (mkF m 4 #[.val (.ref t1)] [(.ref k1)])) rfl (hb hby did0_4)
  refine oS st4 ?_
  show oG p e below _ T4 (mkF m 7 #[.val (.ref t1)] [(.ref k1), (.ref k1)])
  refine oS (fun t k => Jvm.RoadKit.acmp (g := (mkF m 7 #[.val (.ref t1)] [(.ref k1), (.ref k1)])) X4 hx rfl rfl rfl (pc0 := 7) (pc' := 10) (same := true) rfl (hb hby did0_7) rfl (decide_eq_true rfl) (by decide) (by decide) k) ?_
  show oG p e below _ T4 (mkF m 10 #[.val (.ref t1)] [])
  obtain ⟨To, ho, Xo, eo, Eo, Ao, Do, -, sto⟩ := newO X4 hx hZ hown (oW hw 84 rfl) (oW hw 85 rfl) (oW hw 86 rfl) e4 (g := (mkF m 10 #[.val (.ref t1)] [])) rfl (hb hby did0_10) (by decide) (by decide)
  obtain ⟨bo, go⟩ : ∃ z, z = h0.size := ⟨_, rfl⟩
  rw [← go] at Ao Do sto
  have Fo_value : Fld Z ho bo "java/lang/AbstractStringBuilder" "value" "[B" .null := Do (Or.inl (oW hw 99 rfl)) (ty := (.array .byte)) (by decide)
  have Fo_coder : Fld Z ho bo "java/lang/AbstractStringBuilder" "coder" "B" (.int 0) := Do (Or.inl (oW hw 101 rfl)) (ty := .byte) (by decide)
  have Fo_count : Fld Z ho bo "java/lang/AbstractStringBuilder" "count" "I" (.int 0) := Do (Or.inl (oW hw 125 rfl)) (ty := .int) (by decide)
  refine oS sto ?_
  show oG p e below _ To (mkF m 13 #[.val (.ref t1)] [(.ref bo)])
  have Ko := K0.ext Eo
  have Zo : n0 ≤ ho.size := Nat.le_trans Z0 Eo.1
  have zo : h0.size ≤ bo := Nat.le_of_eq go.symm
  have gO : n0 ≤ bo := Nat.le_trans Z0 zo
  have KP : Keep h0 ho [] := (Keep.refl h0 []).ext Eo
  refine oS (fun t k => XS.dup Xo.here hx rfl (hb hby did0_13) rfl rfl k) ?_
  show oG p e below _ To (mkF m 14 #[.val (.ref t1)] [(.ref bo), (.ref bo)])
  refine own_callI Xo hx hZ (y := (⟨"java/lang/StringBuilder", "<init>", "()V"⟩ : MethodName)) (W := 1) (kc := 1) (ks := 16) rfl hown (oW hw 87 rfl) (oW hw 88 rfl) (oW hw 89 rfl) (own_back (W := 1) (rm_si l Z a0 hw [] bo _ _ CS ho n0 Zo Ao Fo_value Fo_coder Fo_count gO (SC.ext Eo) hCS) hZ (oW hw 89 rfl) (oW hw 86 rfl) (by decide) (by decide)) (by decide) (g := (mkF m 14 #[.val (.ref t1)] [(.ref bo), (.ref bo)])) rfl (by rw [hml]; rfl) (a := bo) (argsL := []) (rest := [(.ref bo)]) (lenOf pd_20 rfl) rfl (by show 2 * 0 + _ ≤ _; exact Nat.le_of_eq rfl) (hb hby did0_14) rfl eo (by decide) (by decide) (fun vi Ti Li Xi hQi => ?_)
  obtain ⟨rfl, Mi, Ki', Eb, kb, Fb, Cb, Db, Bb⟩ := hQi
  have Ni := Fr.app N0 Mi
  have zb : h0.size ≤ ho.size := Eo.1
  have gB : n0 ≤ ho.size := Zo
  have hob : bo ≠ ho.size := Nat.ne_of_lt Ao.lt
  have SO := Safe.exa Ko.1.alike Ao (by decide) (by decide) (EL := consts_1)
  have KPi := KP.trans Ki' (allS (Or.inr zo) all0)
  have Sb := Safe.keep Ki' (allS SO all0) Ko.2.2.1.1 (Safe.new (Nat.le_refl ho.size))
  have Ki := Ko.keep Ki' (allS SO all0)
  show oG p e below _ Ti (mkF m 17 #[.val (.ref t1)] [(.ref bo)])
  refine own_ldc Xi hx Ki (text := "_:") hown (oW hw 102 rfl) wS rfl (by decide) (vs := [(.int 95), (.int 58)]) (z := (2 : Int32)) ⟨by decide, by decide⟩ (by decide) rfl (g := (mkF m 17 #[.val (.ref t1)] [(.ref bo)])) rfl (hb hby did0_17) (n := 8) (by decide) (by decide) (by decide) (by decide) (fun al Tl bl kbl Xl El Kl hownl Rl LEl LCl LVl LAl SFl => ?_)
  show oG p e below _ Tl (mkF m 19 #[.val (.ref t1)] [(.ref al), (.ref bo)])
  have KPl := KPi.ext El
  have Zl : n0 ≤ Tl.heap.size := Nat.le_trans Z0 KPl.1
  have Sbl := Rl.safe Bb.lt Sb
  have Ebl := Eb.ext El
  have SOl := Safe.exa Kl.1.alike Ebl (by decide) (by decide) (EL := consts_1)
  have SCl := own_staK0 SC KPl
  have hp0 : ∀ c ∈ ([95, 58] : List Int32), ¬ c < 0 ∧ ¬ (255 : Int32) < c := by decide
  refine own_callV Xl hx Kl.1 (y := (⟨"java/lang/StringBuilder", "append", "(Ljava/lang/String;)Ljava/lang/StringBuilder;"⟩ : MethodName)) (W := 0) (kc := 0) (ks := 0) hownl (oW hw 103 rfl) (oW hw 104 rfl) (oW hw 106 rfl) (oW hw 105 rfl) (own_back (W := 0) (rm_sa02 l Z a0 hw [] bo ho.size al bl kbl kb CS 95 58 (.int 0) (.int 0) (.int 0) (.int 0) (.int 0) (.int 0) (.int 0) (.int 0) (.int 0) (.int 0) (.int 0) (.int 0) (.int 0) (.int 0) (.int 0) (.int 0) Tl.heap n0 Zl LEl LVl LCl LAl Ebl (Fb.ext El) (Cb.ext El) (Db.ext El) (Bb.ext El) gO gB hob hp0 SCl hCS) Kl.1 (oW hw 107 rfl) (oW hw 86 rfl) (by decide) (by decide)) (by decide) (b := bo) Ebl (g := (mkF m 19 #[.val (.ref t1)] [(.ref al), (.ref bo)])) rfl (by rw [hml]; rfl) (argsL := [(.ref al)]) (rest := []) (lenOf pd_21 rfl) rfl (by show 2 * 0 + _ ≤ _; exact Nat.le_of_eq rfl) (hb hby did0_19) rfl rfl (by decide) (by decide) (fun va Ta La Xa hQa => ?_)
  obtain ⟨rfl, Ma, Ka', Ea, Fa, Ca, Da, Ba⟩ := hQa
  have Na := Fr.app Ni Ma
  have KPa := KPl.trans Ka' (allS (Or.inr zo) (allS (Or.inr zb) all0))
  have Za : n0 ≤ Ta.heap.size := Nat.le_trans Z0 KPa.1
  have Sba := Safe.keep Ka' (allS SOl (allS Sbl all0)) Kl.2.2.1.1 Sbl
  have Ka := Kl.keep Ka' (allS SOl (allS Sbl all0))
  have SOa := Safe.exa Ka.1.alike Ea (by decide) (by decide) (EL := consts_1)
  have SCa := own_staK0 SC KPa
  show oG p e below _ Ta (mkF m 22 #[.val (.ref t1)] [(.ref bo)])
  refine oS (fun t k => XS.aloadN Xa.here hx rfl (hb hby did0_22) rfl rfl k) ?_
  show oG p e below _ Ta (mkF m 23 #[.val (.ref t1)] [(.ref t1), (.ref bo)])
  obtain ⟨T23, X23, e23, st23⟩ := getF Xa hx Kl.1 hownl (host := "") (Or.inl (oW hw 47 rfl)) Via.refl rfl (B1.keep KPa nin0) (g := (mkF m 23 #[.val (.ref t1)] [(.ref t1), (.ref bo)])) rfl rfl (hb hby did0_23)
  refine oS st23 ?_
  show oG p e below _ T23 (mkF m 26 #[.val (.ref t1)] [(.ref s1), (.ref bo)])
  refine own_callV X23 hx Kl.1 (y := (⟨"java/lang/StringBuilder", "append", "(Ljava/lang/String;)Ljava/lang/StringBuilder;"⟩ : MethodName)) (W := 0) (kc := 0) (ks := 0) hownl (oW hw 103 rfl) (oW hw 104 rfl) (oW hw 106 rfl) (oW hw 105 rfl) (own_back (W := 0) (rm_sa20 l Z a0 hw [] bo ho.size s1 u1 ku kb CS  (.int 95) (.int 58) (.int 0) (.int 0) (.int 0) (.int 0) (.int 0) (.int 0) (.int 0) (.int 0) (.int 0) (.int 0) (.int 0) (.int 0) (.int 0) (.int 0) Ta.heap n0 Za (Es.keep KPa) (Vs.keep KPa nin0) (Cs.keep KPa nin0) (At.keep KPa nin0) Ea Fa Ca Da Ba gO gB hob hp SCa hCS) Kl.1 (oW hw 107 rfl) (oW hw 86 rfl) (by decide) (by decide)) (by decide) (b := bo) Ea (g := (mkF m 26 #[.val (.ref t1)] [(.ref s1), (.ref bo)])) rfl (by rw [hml]; rfl) (argsL := [(.ref s1)]) (rest := []) (lenOf pd_21 rfl) rfl (by show 2 * 0 + _ ≤ _; exact Nat.le_of_eq rfl) (hb hby did0_26) rfl e23 (by decide) (by decide) (fun vb Tb Lb Xb hQb => ?_)
  obtain ⟨rfl, Mb, Kb', Eb2, Fb2, Cb2, Db2, Bb2⟩ := hQb
  have Nb := Fr.app Na Mb
  have KPb := KPa.trans Kb' (allS (Or.inr zo) (allS (Or.inr zb) all0))
  have Zb : n0 ≤ Tb.heap.size := Nat.le_trans Z0 KPb.1
  have SCb := own_staK0 SC KPb
  have Kb := Ka.keep Kb' (allS SOa (allS Sba all0))
  show oG p e below _ Tb (mkF m 29 #[.val (.ref t1)] [(.ref bo)])
  refine own_callV Xb hx Kl.1 (y := (⟨"java/lang/StringBuilder", "toString", "()Ljava/lang/String;"⟩ : MethodName)) (W := 0) (kc := 2) (ks := 6) hownl (oW hw 151 rfl) (oW hw 152 rfl) (oW hw 154 rfl) (oW hw 153 rfl) (own_back (W := 0) (rm_ts2 l Z a0 hw [] bo ho.size kb CS (.int 95) (.int 58) (.int 0) (.int 0) (.int 0) (.int 0) (.int 0) (.int 0) (.int 0) (.int 0) (.int 0) (.int 0) (.int 0) (.int 0) (.int 0) (.int 0) Tb.heap n0 Zb Eb2 Fb2 Cb2 Db2 Bb2 SCb hCS) Kl.1 (oW hw 155 rfl) (oW hw 86 rfl) (by decide) (by decide)) (by decide) (b := bo) Eb2 (g := (mkF m 29 #[.val (.ref t1)] [(.ref bo)])) rfl (by rw [hml]; rfl) (argsL := []) (rest := []) (lenOf pd_22 rfl) rfl (by show 2 * 0 + _ ≤ _; exact Nat.le_of_eq rfl) (hb hby did0_29) rfl rfl (by decide) (by decide) (fun vc Tc Lc Xc hQc => ?_)
  obtain ⟨xc, rc, kc, rfl, Mc, Kc', zc, Ec, Cc, Vc, Bc⟩ := hQc
  have Nc := Fr.app Nb Mc
  have Kc := Kb.keep Kc' all0
  show oG p e below _ Tc (mkF m 32 #[.val (.ref t1)] [(.ref xc)])
  refine oS (fun t k => XS.goto Xc.here hx rfl (pc0 := 32) (pc' := 39) rfl (hb hby did0_32) (by decide) (by decide) k) ?_
  show oG p e below _ Tc (mkF m 39 #[.val (.ref t1)] [(.ref xc)])
  refine own_retHA Xc Kc rfl hx hlk hret rfl rfl (hb hby did0_39) ?_ (by decide) (by decide)
  exact ⟨xc, rfl, Nc, KPb.trans Kc' all0, rc, kc, Ec, Vc, Cc, Bc⟩
theorem efid1 (m : MethodId) (x0 : Addr) : entryFrame m #[(.ref x0)] 1 = mkF m 0 #[.val (.ref x0)] [] := by first | (simp [entryFrame, mkF, argsToLocals, Value.category]; done) | rfl
set_option maxRecDepth 65536 in
set_option maxHeartbeats 40000000 in
theorem rm_id1 (l : Launch) (Z : State) (a0 : Array Value) (hw : ∀ d ∈ tables_1, d.before a0 Z = true) (ws : List Jvm.Cond) (t1 : Addr) (k1 : Addr) (s1 : Addr) (CS : Int32) (c0 : Int32) (h0 : Heap) (n0 : Nat) (Z0 : n0 ≤ h0.size) (hE : EW Z a0 consts_1) (wS : ∀ a ∈ Bundle.stringAtoms, a.before a0 Z = true) (A1 : Fld Z h0 t1 "com/example/rank3/rank3/graph/Term" "kind" "Lcom/example/rank3/rank3/graph/Term$Kind;" (.ref k1)) (B1 : Fld Z h0 t1 "com/example/rank3/rank3/graph/Term" "value" "Ljava/lang/String;" (.ref s1)) (L1 : own_Lat Z h0 s1 ([c0] : List Int32)) (hp : ∀ c ∈ ([c0] : List Int32), ¬ c < 0 ∧ ¬ (255 : Int32) < c) (SB : Sta Z h0 "com/example/rank3/rank3/graph/Term$Kind" "BLANK_NODE" "Lcom/example/rank3/rank3/graph/Term$Kind;" (.ref k1)) (SC : Sta Z h0 "java/lang/String" "COMPACT_STRINGS" "Z" (.int CS)) (hCS : ¬ CS = 0) :
    own_MetH l Z consts_1 ws (⟨"com/example/rank3/rank3/graph/Term", "id", "()Ljava/lang/String;"⟩ : MethodName) prog_15_method_9_code 1 (some (.object "java/lang/String")) ({ frames := 6, cells := 7, slots := 60, locals := 125 } : Room) #[(.ref t1)] h0 (fun v h L => ∃ x : Addr, v = some (.ref x) ∧ Fr n0 L ∧ Keep h0 h [] ∧ own_Lat Z h x ((95 : Int32) :: (58 : Int32) :: ([c0] : List Int32))) (fun _ => True) := by
  refine own_bodyH (plainFor_of_name pn_1) hE ?_
  intro p e s m below meth c s₁ hx hby hml hret hlk hown hnm X0 e0 K0 hPv
  have hZ : Z.Warmed39 s.vm := K0.1
  have hml : c.maxLocals = 1 := hml
  have hown : s.vm.findClass "com/example/rank3/rank3/graph/Term" = some m.cls := hown
  have N0 := Fr.nil n0
  obtain ⟨u1, ku, Es, Vs, Cs, At⟩ := id L1
  refine own_cast (efid1 m t1) ?_
  show oG p e below _ s₁ (mkF m 0 #[.val (.ref t1)] [])
  refine oS (fun t k => XS.aloadN X0.here hx rfl (hb hby did0_0) rfl rfl k) ?_
  show oG p e below _ s₁ (mkF m 1 #[.val (.ref t1)] [(.ref t1)])
  obtain ⟨T1, X1, e1, st1⟩ := getF X0 hx hZ hown (host := "") (Or.inl (oW hw 39 rfl)) Via.refl e0 A1 (g := (mkF m 1 #[.val (.ref t1)] [(.ref t1)])) rfl rfl (hb hby did0_1)
  refine oS st1 ?_
  show oG p e below _ T1 (mkF m 4 #[.val (.ref t1)] [(.ref k1)])
  obtain ⟨T4, X4, e4, st4⟩ := getS2 X1 hx hZ hown (host := "") (Or.inl (oW hw 32 rfl)) Via.refl e1 SB (g := (mkF m 4 #[.val (.ref t1)] [(.ref k1)])) rfl (hb hby did0_4)
  refine oS st4 ?_
  show oG p e below _ T4 (mkF m 7 #[.val (.ref t1)] [(.ref k1), (.ref k1)])
  refine oS (fun t k => Jvm.RoadKit.acmp (g := (mkF m 7 #[.val (.ref t1)] [(.ref k1), (.ref k1)])) X4 hx rfl rfl rfl (pc0 := 7) (pc' := 10) (same := true) rfl (hb hby did0_7) rfl (decide_eq_true rfl) (by decide) (by decide) k) ?_
  show oG p e below _ T4 (mkF m 10 #[.val (.ref t1)] [])
  obtain ⟨To, ho, Xo, eo, Eo, Ao, Do, -, sto⟩ := newO X4 hx hZ hown (oW hw 84 rfl) (oW hw 85 rfl) (oW hw 86 rfl) e4 (g := (mkF m 10 #[.val (.ref t1)] [])) rfl (hb hby did0_10) (by decide) (by decide)
  obtain ⟨bo, go⟩ : ∃ z, z = h0.size := ⟨_, rfl⟩
  rw [← go] at Ao Do sto
  have Fo_value : Fld Z ho bo "java/lang/AbstractStringBuilder" "value" "[B" .null := Do (Or.inl (oW hw 99 rfl)) (ty := (.array .byte)) (by decide)
  have Fo_coder : Fld Z ho bo "java/lang/AbstractStringBuilder" "coder" "B" (.int 0) := Do (Or.inl (oW hw 101 rfl)) (ty := .byte) (by decide)
  have Fo_count : Fld Z ho bo "java/lang/AbstractStringBuilder" "count" "I" (.int 0) := Do (Or.inl (oW hw 125 rfl)) (ty := .int) (by decide)
  refine oS sto ?_
  show oG p e below _ To (mkF m 13 #[.val (.ref t1)] [(.ref bo)])
  have Ko := K0.ext Eo
  have Zo : n0 ≤ ho.size := Nat.le_trans Z0 Eo.1
  have zo : h0.size ≤ bo := Nat.le_of_eq go.symm
  have gO : n0 ≤ bo := Nat.le_trans Z0 zo
  have KP : Keep h0 ho [] := (Keep.refl h0 []).ext Eo
  refine oS (fun t k => XS.dup Xo.here hx rfl (hb hby did0_13) rfl rfl k) ?_
  show oG p e below _ To (mkF m 14 #[.val (.ref t1)] [(.ref bo), (.ref bo)])
  refine own_callI Xo hx hZ (y := (⟨"java/lang/StringBuilder", "<init>", "()V"⟩ : MethodName)) (W := 1) (kc := 1) (ks := 16) rfl hown (oW hw 87 rfl) (oW hw 88 rfl) (oW hw 89 rfl) (own_back (W := 1) (rm_si l Z a0 hw [] bo _ _ CS ho n0 Zo Ao Fo_value Fo_coder Fo_count gO (SC.ext Eo) hCS) hZ (oW hw 89 rfl) (oW hw 86 rfl) (by decide) (by decide)) (by decide) (g := (mkF m 14 #[.val (.ref t1)] [(.ref bo), (.ref bo)])) rfl (by rw [hml]; rfl) (a := bo) (argsL := []) (rest := [(.ref bo)]) (lenOf pd_20 rfl) rfl (by show 2 * 0 + _ ≤ _; exact Nat.le_of_eq rfl) (hb hby did0_14) rfl eo (by decide) (by decide) (fun vi Ti Li Xi hQi => ?_)
  obtain ⟨rfl, Mi, Ki', Eb, kb, Fb, Cb, Db, Bb⟩ := hQi
  have Ni := Fr.app N0 Mi
  have zb : h0.size ≤ ho.size := Eo.1
  have gB : n0 ≤ ho.size := Zo
  have hob : bo ≠ ho.size := Nat.ne_of_lt Ao.lt
  have SO := Safe.exa Ko.1.alike Ao (by decide) (by decide) (EL := consts_1)
  have KPi := KP.trans Ki' (allS (Or.inr zo) all0)
  have Sb := Safe.keep Ki' (allS SO all0) Ko.2.2.1.1 (Safe.new (Nat.le_refl ho.size))
  have Ki := Ko.keep Ki' (allS SO all0)
  show oG p e below _ Ti (mkF m 17 #[.val (.ref t1)] [(.ref bo)])
  refine own_ldc Xi hx Ki (text := "_:") hown (oW hw 102 rfl) wS rfl (by decide) (vs := [(.int 95), (.int 58)]) (z := (2 : Int32)) ⟨by decide, by decide⟩ (by decide) rfl (g := (mkF m 17 #[.val (.ref t1)] [(.ref bo)])) rfl (hb hby did0_17) (n := 8) (by decide) (by decide) (by decide) (by decide) (fun al Tl bl kbl Xl El Kl hownl Rl LEl LCl LVl LAl SFl => ?_)
  show oG p e below _ Tl (mkF m 19 #[.val (.ref t1)] [(.ref al), (.ref bo)])
  have KPl := KPi.ext El
  have Zl : n0 ≤ Tl.heap.size := Nat.le_trans Z0 KPl.1
  have Sbl := Rl.safe Bb.lt Sb
  have Ebl := Eb.ext El
  have SOl := Safe.exa Kl.1.alike Ebl (by decide) (by decide) (EL := consts_1)
  have SCl := own_staK0 SC KPl
  have hp0 : ∀ c ∈ ([95, 58] : List Int32), ¬ c < 0 ∧ ¬ (255 : Int32) < c := by decide
  refine own_callV Xl hx Kl.1 (y := (⟨"java/lang/StringBuilder", "append", "(Ljava/lang/String;)Ljava/lang/StringBuilder;"⟩ : MethodName)) (W := 0) (kc := 0) (ks := 0) hownl (oW hw 103 rfl) (oW hw 104 rfl) (oW hw 106 rfl) (oW hw 105 rfl) (own_back (W := 0) (rm_sa02 l Z a0 hw [] bo ho.size al bl kbl kb CS 95 58 (.int 0) (.int 0) (.int 0) (.int 0) (.int 0) (.int 0) (.int 0) (.int 0) (.int 0) (.int 0) (.int 0) (.int 0) (.int 0) (.int 0) (.int 0) (.int 0) Tl.heap n0 Zl LEl LVl LCl LAl Ebl (Fb.ext El) (Cb.ext El) (Db.ext El) (Bb.ext El) gO gB hob hp0 SCl hCS) Kl.1 (oW hw 107 rfl) (oW hw 86 rfl) (by decide) (by decide)) (by decide) (b := bo) Ebl (g := (mkF m 19 #[.val (.ref t1)] [(.ref al), (.ref bo)])) rfl (by rw [hml]; rfl) (argsL := [(.ref al)]) (rest := []) (lenOf pd_21 rfl) rfl (by show 2 * 0 + _ ≤ _; exact Nat.le_of_eq rfl) (hb hby did0_19) rfl rfl (by decide) (by decide) (fun va Ta La Xa hQa => ?_)
  obtain ⟨rfl, Ma, Ka', Ea, Fa, Ca, Da, Ba⟩ := hQa
  have Na := Fr.app Ni Ma
  have KPa := KPl.trans Ka' (allS (Or.inr zo) (allS (Or.inr zb) all0))
  have Za : n0 ≤ Ta.heap.size := Nat.le_trans Z0 KPa.1
  have Sba := Safe.keep Ka' (allS SOl (allS Sbl all0)) Kl.2.2.1.1 Sbl
  have Ka := Kl.keep Ka' (allS SOl (allS Sbl all0))
  have SOa := Safe.exa Ka.1.alike Ea (by decide) (by decide) (EL := consts_1)
  have SCa := own_staK0 SC KPa
  show oG p e below _ Ta (mkF m 22 #[.val (.ref t1)] [(.ref bo)])
  refine oS (fun t k => XS.aloadN Xa.here hx rfl (hb hby did0_22) rfl rfl k) ?_
  show oG p e below _ Ta (mkF m 23 #[.val (.ref t1)] [(.ref t1), (.ref bo)])
  obtain ⟨T23, X23, e23, st23⟩ := getF Xa hx Kl.1 hownl (host := "") (Or.inl (oW hw 47 rfl)) Via.refl rfl (B1.keep KPa nin0) (g := (mkF m 23 #[.val (.ref t1)] [(.ref t1), (.ref bo)])) rfl rfl (hb hby did0_23)
  refine oS st23 ?_
  show oG p e below _ T23 (mkF m 26 #[.val (.ref t1)] [(.ref s1), (.ref bo)])
  refine own_callV X23 hx Kl.1 (y := (⟨"java/lang/StringBuilder", "append", "(Ljava/lang/String;)Ljava/lang/StringBuilder;"⟩ : MethodName)) (W := 0) (kc := 0) (ks := 0) hownl (oW hw 103 rfl) (oW hw 104 rfl) (oW hw 106 rfl) (oW hw 105 rfl) (own_back (W := 0) (rm_sa21 l Z a0 hw [] bo ho.size s1 u1 ku kb CS c0 (.int 95) (.int 58) (.int 0) (.int 0) (.int 0) (.int 0) (.int 0) (.int 0) (.int 0) (.int 0) (.int 0) (.int 0) (.int 0) (.int 0) (.int 0) (.int 0) Ta.heap n0 Za (Es.keep KPa) (Vs.keep KPa nin0) (Cs.keep KPa nin0) (At.keep KPa nin0) Ea Fa Ca Da Ba gO gB hob hp SCa hCS) Kl.1 (oW hw 107 rfl) (oW hw 86 rfl) (by decide) (by decide)) (by decide) (b := bo) Ea (g := (mkF m 26 #[.val (.ref t1)] [(.ref s1), (.ref bo)])) rfl (by rw [hml]; rfl) (argsL := [(.ref s1)]) (rest := []) (lenOf pd_21 rfl) rfl (by show 2 * 0 + _ ≤ _; exact Nat.le_of_eq rfl) (hb hby did0_26) rfl e23 (by decide) (by decide) (fun vb Tb Lb Xb hQb => ?_)
  obtain ⟨rfl, Mb, Kb', Eb2, Fb2, Cb2, Db2, Bb2⟩ := hQb
  have Nb := Fr.app Na Mb
  have KPb := KPa.trans Kb' (allS (Or.inr zo) (allS (Or.inr zb) all0))
  have Zb : n0 ≤ Tb.heap.size := Nat.le_trans Z0 KPb.1
  have SCb := own_staK0 SC KPb
  have Kb := Ka.keep Kb' (allS SOa (allS Sba all0))
  show oG p e below _ Tb (mkF m 29 #[.val (.ref t1)] [(.ref bo)])
  refine own_callV Xb hx Kl.1 (y := (⟨"java/lang/StringBuilder", "toString", "()Ljava/lang/String;"⟩ : MethodName)) (W := 0) (kc := 2) (ks := 7) hownl (oW hw 151 rfl) (oW hw 152 rfl) (oW hw 154 rfl) (oW hw 153 rfl) (own_back (W := 0) (rm_ts3 l Z a0 hw [] bo ho.size kb CS (.int 95) (.int 58) (.int (c0.toInt8.toInt32)) (.int 0) (.int 0) (.int 0) (.int 0) (.int 0) (.int 0) (.int 0) (.int 0) (.int 0) (.int 0) (.int 0) (.int 0) (.int 0) Tb.heap n0 Zb Eb2 Fb2 Cb2 Db2 Bb2 SCb hCS) Kl.1 (oW hw 155 rfl) (oW hw 86 rfl) (by decide) (by decide)) (by decide) (b := bo) Eb2 (g := (mkF m 29 #[.val (.ref t1)] [(.ref bo)])) rfl (by rw [hml]; rfl) (argsL := []) (rest := []) (lenOf pd_22 rfl) rfl (by show 2 * 0 + _ ≤ _; exact Nat.le_of_eq rfl) (hb hby did0_29) rfl rfl (by decide) (by decide) (fun vc Tc Lc Xc hQc => ?_)
  obtain ⟨xc, rc, kc, rfl, Mc, Kc', zc, Ec, Cc, Vc, Bc⟩ := hQc
  have Nc := Fr.app Nb Mc
  have Kc := Kb.keep Kc' all0
  show oG p e below _ Tc (mkF m 32 #[.val (.ref t1)] [(.ref xc)])
  refine oS (fun t k => XS.goto Xc.here hx rfl (pc0 := 32) (pc' := 39) rfl (hb hby did0_32) (by decide) (by decide) k) ?_
  show oG p e below _ Tc (mkF m 39 #[.val (.ref t1)] [(.ref xc)])
  refine own_retHA Xc Kc rfl hx hlk hret rfl rfl (hb hby did0_39) ?_ (by decide) (by decide)
  exact ⟨xc, rfl, Nc, KPb.trans Kc' all0, rc, kc, Ec, Vc, Cc, Bc⟩
theorem efid2 (m : MethodId) (x0 : Addr) : entryFrame m #[(.ref x0)] 1 = mkF m 0 #[.val (.ref x0)] [] := by first | (simp [entryFrame, mkF, argsToLocals, Value.category]; done) | rfl
set_option maxRecDepth 65536 in
set_option maxHeartbeats 40000000 in
theorem rm_id2 (l : Launch) (Z : State) (a0 : Array Value) (hw : ∀ d ∈ tables_1, d.before a0 Z = true) (ws : List Jvm.Cond) (t1 : Addr) (k1 : Addr) (s1 : Addr) (CS : Int32) (c0 : Int32) (c1 : Int32) (h0 : Heap) (n0 : Nat) (Z0 : n0 ≤ h0.size) (hE : EW Z a0 consts_1) (wS : ∀ a ∈ Bundle.stringAtoms, a.before a0 Z = true) (A1 : Fld Z h0 t1 "com/example/rank3/rank3/graph/Term" "kind" "Lcom/example/rank3/rank3/graph/Term$Kind;" (.ref k1)) (B1 : Fld Z h0 t1 "com/example/rank3/rank3/graph/Term" "value" "Ljava/lang/String;" (.ref s1)) (L1 : own_Lat Z h0 s1 ([c0, c1] : List Int32)) (hp : ∀ c ∈ ([c0, c1] : List Int32), ¬ c < 0 ∧ ¬ (255 : Int32) < c) (SB : Sta Z h0 "com/example/rank3/rank3/graph/Term$Kind" "BLANK_NODE" "Lcom/example/rank3/rank3/graph/Term$Kind;" (.ref k1)) (SC : Sta Z h0 "java/lang/String" "COMPACT_STRINGS" "Z" (.int CS)) (hCS : ¬ CS = 0) :
    own_MetH l Z consts_1 ws (⟨"com/example/rank3/rank3/graph/Term", "id", "()Ljava/lang/String;"⟩ : MethodName) prog_15_method_9_code 1 (some (.object "java/lang/String")) ({ frames := 6, cells := 7, slots := 60, locals := 125 } : Room) #[(.ref t1)] h0 (fun v h L => ∃ x : Addr, v = some (.ref x) ∧ Fr n0 L ∧ Keep h0 h [] ∧ own_Lat Z h x ((95 : Int32) :: (58 : Int32) :: ([c0, c1] : List Int32))) (fun _ => True) := by
  refine own_bodyH (plainFor_of_name pn_1) hE ?_
  intro p e s m below meth c s₁ hx hby hml hret hlk hown hnm X0 e0 K0 hPv
  have hZ : Z.Warmed39 s.vm := K0.1
  have hml : c.maxLocals = 1 := hml
  have hown : s.vm.findClass "com/example/rank3/rank3/graph/Term" = some m.cls := hown
  have N0 := Fr.nil n0
  obtain ⟨u1, ku, Es, Vs, Cs, At⟩ := id L1
  refine own_cast (efid2 m t1) ?_
  show oG p e below _ s₁ (mkF m 0 #[.val (.ref t1)] [])
  refine oS (fun t k => XS.aloadN X0.here hx rfl (hb hby did0_0) rfl rfl k) ?_
  show oG p e below _ s₁ (mkF m 1 #[.val (.ref t1)] [(.ref t1)])
  obtain ⟨T1, X1, e1, st1⟩ := getF X0 hx hZ hown (host := "") (Or.inl (oW hw 39 rfl)) Via.refl e0 A1 (g := (mkF m 1 #[.val (.ref t1)] [(.ref t1)])) rfl rfl (hb hby did0_1)
  refine oS st1 ?_
  show oG p e below _ T1 (mkF m 4 #[.val (.ref t1)] [(.ref k1)])
  obtain ⟨T4, X4, e4, st4⟩ := getS2 X1 hx hZ hown (host := "") (Or.inl (oW hw 32 rfl)) Via.refl e1 SB (g := (mkF m 4 #[.val (.ref t1)] [(.ref k1)])) rfl (hb hby did0_4)
  refine oS st4 ?_
  show oG p e below _ T4 (mkF m 7 #[.val (.ref t1)] [(.ref k1), (.ref k1)])
  refine oS (fun t k => Jvm.RoadKit.acmp (g := (mkF m 7 #[.val (.ref t1)] [(.ref k1), (.ref k1)])) X4 hx rfl rfl rfl (pc0 := 7) (pc' := 10) (same := true) rfl (hb hby did0_7) rfl (decide_eq_true rfl) (by decide) (by decide) k) ?_
  show oG p e below _ T4 (mkF m 10 #[.val (.ref t1)] [])
  obtain ⟨To, ho, Xo, eo, Eo, Ao, Do, -, sto⟩ := newO X4 hx hZ hown (oW hw 84 rfl) (oW hw 85 rfl) (oW hw 86 rfl) e4 (g := (mkF m 10 #[.val (.ref t1)] [])) rfl (hb hby did0_10) (by decide) (by decide)
  obtain ⟨bo, go⟩ : ∃ z, z = h0.size := ⟨_, rfl⟩
  rw [← go] at Ao Do sto
  have Fo_value : Fld Z ho bo "java/lang/AbstractStringBuilder" "value" "[B" .null := Do (Or.inl (oW hw 99 rfl)) (ty := (.array .byte)) (by decide)
  have Fo_coder : Fld Z ho bo "java/lang/AbstractStringBuilder" "coder" "B" (.int 0) := Do (Or.inl (oW hw 101 rfl)) (ty := .byte) (by decide)
  have Fo_count : Fld Z ho bo "java/lang/AbstractStringBuilder" "count" "I" (.int 0) := Do (Or.inl (oW hw 125 rfl)) (ty := .int) (by decide)
  refine oS sto ?_
  show oG p e below _ To (mkF m 13 #[.val (.ref t1)] [(.ref bo)])
  have Ko := K0.ext Eo
  have Zo : n0 ≤ ho.size := Nat.le_trans Z0 Eo.1
  have zo : h0.size ≤ bo := Nat.le_of_eq go.symm
  have gO : n0 ≤ bo := Nat.le_trans Z0 zo
  have KP : Keep h0 ho [] := (Keep.refl h0 []).ext Eo
  refine oS (fun t k => XS.dup Xo.here hx rfl (hb hby did0_13) rfl rfl k) ?_
  show oG p e below _ To (mkF m 14 #[.val (.ref t1)] [(.ref bo), (.ref bo)])
  refine own_callI Xo hx hZ (y := (⟨"java/lang/StringBuilder", "<init>", "()V"⟩ : MethodName)) (W := 1) (kc := 1) (ks := 16) rfl hown (oW hw 87 rfl) (oW hw 88 rfl) (oW hw 89 rfl) (own_back (W := 1) (rm_si l Z a0 hw [] bo _ _ CS ho n0 Zo Ao Fo_value Fo_coder Fo_count gO (SC.ext Eo) hCS) hZ (oW hw 89 rfl) (oW hw 86 rfl) (by decide) (by decide)) (by decide) (g := (mkF m 14 #[.val (.ref t1)] [(.ref bo), (.ref bo)])) rfl (by rw [hml]; rfl) (a := bo) (argsL := []) (rest := [(.ref bo)]) (lenOf pd_20 rfl) rfl (by show 2 * 0 + _ ≤ _; exact Nat.le_of_eq rfl) (hb hby did0_14) rfl eo (by decide) (by decide) (fun vi Ti Li Xi hQi => ?_)
  obtain ⟨rfl, Mi, Ki', Eb, kb, Fb, Cb, Db, Bb⟩ := hQi
  have Ni := Fr.app N0 Mi
  have zb : h0.size ≤ ho.size := Eo.1
  have gB : n0 ≤ ho.size := Zo
  have hob : bo ≠ ho.size := Nat.ne_of_lt Ao.lt
  have SO := Safe.exa Ko.1.alike Ao (by decide) (by decide) (EL := consts_1)
  have KPi := KP.trans Ki' (allS (Or.inr zo) all0)
  have Sb := Safe.keep Ki' (allS SO all0) Ko.2.2.1.1 (Safe.new (Nat.le_refl ho.size))
  have Ki := Ko.keep Ki' (allS SO all0)
  show oG p e below _ Ti (mkF m 17 #[.val (.ref t1)] [(.ref bo)])
  refine own_ldc Xi hx Ki (text := "_:") hown (oW hw 102 rfl) wS rfl (by decide) (vs := [(.int 95), (.int 58)]) (z := (2 : Int32)) ⟨by decide, by decide⟩ (by decide) rfl (g := (mkF m 17 #[.val (.ref t1)] [(.ref bo)])) rfl (hb hby did0_17) (n := 8) (by decide) (by decide) (by decide) (by decide) (fun al Tl bl kbl Xl El Kl hownl Rl LEl LCl LVl LAl SFl => ?_)
  show oG p e below _ Tl (mkF m 19 #[.val (.ref t1)] [(.ref al), (.ref bo)])
  have KPl := KPi.ext El
  have Zl : n0 ≤ Tl.heap.size := Nat.le_trans Z0 KPl.1
  have Sbl := Rl.safe Bb.lt Sb
  have Ebl := Eb.ext El
  have SOl := Safe.exa Kl.1.alike Ebl (by decide) (by decide) (EL := consts_1)
  have SCl := own_staK0 SC KPl
  have hp0 : ∀ c ∈ ([95, 58] : List Int32), ¬ c < 0 ∧ ¬ (255 : Int32) < c := by decide
  refine own_callV Xl hx Kl.1 (y := (⟨"java/lang/StringBuilder", "append", "(Ljava/lang/String;)Ljava/lang/StringBuilder;"⟩ : MethodName)) (W := 0) (kc := 0) (ks := 0) hownl (oW hw 103 rfl) (oW hw 104 rfl) (oW hw 106 rfl) (oW hw 105 rfl) (own_back (W := 0) (rm_sa02 l Z a0 hw [] bo ho.size al bl kbl kb CS 95 58 (.int 0) (.int 0) (.int 0) (.int 0) (.int 0) (.int 0) (.int 0) (.int 0) (.int 0) (.int 0) (.int 0) (.int 0) (.int 0) (.int 0) (.int 0) (.int 0) Tl.heap n0 Zl LEl LVl LCl LAl Ebl (Fb.ext El) (Cb.ext El) (Db.ext El) (Bb.ext El) gO gB hob hp0 SCl hCS) Kl.1 (oW hw 107 rfl) (oW hw 86 rfl) (by decide) (by decide)) (by decide) (b := bo) Ebl (g := (mkF m 19 #[.val (.ref t1)] [(.ref al), (.ref bo)])) rfl (by rw [hml]; rfl) (argsL := [(.ref al)]) (rest := []) (lenOf pd_21 rfl) rfl (by show 2 * 0 + _ ≤ _; exact Nat.le_of_eq rfl) (hb hby did0_19) rfl rfl (by decide) (by decide) (fun va Ta La Xa hQa => ?_)
  obtain ⟨rfl, Ma, Ka', Ea, Fa, Ca, Da, Ba⟩ := hQa
  have Na := Fr.app Ni Ma
  have KPa := KPl.trans Ka' (allS (Or.inr zo) (allS (Or.inr zb) all0))
  have Za : n0 ≤ Ta.heap.size := Nat.le_trans Z0 KPa.1
  have Sba := Safe.keep Ka' (allS SOl (allS Sbl all0)) Kl.2.2.1.1 Sbl
  have Ka := Kl.keep Ka' (allS SOl (allS Sbl all0))
  have SOa := Safe.exa Ka.1.alike Ea (by decide) (by decide) (EL := consts_1)
  have SCa := own_staK0 SC KPa
  show oG p e below _ Ta (mkF m 22 #[.val (.ref t1)] [(.ref bo)])
  refine oS (fun t k => XS.aloadN Xa.here hx rfl (hb hby did0_22) rfl rfl k) ?_
  show oG p e below _ Ta (mkF m 23 #[.val (.ref t1)] [(.ref t1), (.ref bo)])
  obtain ⟨T23, X23, e23, st23⟩ := getF Xa hx Kl.1 hownl (host := "") (Or.inl (oW hw 47 rfl)) Via.refl rfl (B1.keep KPa nin0) (g := (mkF m 23 #[.val (.ref t1)] [(.ref t1), (.ref bo)])) rfl rfl (hb hby did0_23)
  refine oS st23 ?_
  show oG p e below _ T23 (mkF m 26 #[.val (.ref t1)] [(.ref s1), (.ref bo)])
  refine own_callV X23 hx Kl.1 (y := (⟨"java/lang/StringBuilder", "append", "(Ljava/lang/String;)Ljava/lang/StringBuilder;"⟩ : MethodName)) (W := 0) (kc := 0) (ks := 0) hownl (oW hw 103 rfl) (oW hw 104 rfl) (oW hw 106 rfl) (oW hw 105 rfl) (own_back (W := 0) (rm_sa22 l Z a0 hw [] bo ho.size s1 u1 ku kb CS c0 c1 (.int 95) (.int 58) (.int 0) (.int 0) (.int 0) (.int 0) (.int 0) (.int 0) (.int 0) (.int 0) (.int 0) (.int 0) (.int 0) (.int 0) (.int 0) (.int 0) Ta.heap n0 Za (Es.keep KPa) (Vs.keep KPa nin0) (Cs.keep KPa nin0) (At.keep KPa nin0) Ea Fa Ca Da Ba gO gB hob hp SCa hCS) Kl.1 (oW hw 107 rfl) (oW hw 86 rfl) (by decide) (by decide)) (by decide) (b := bo) Ea (g := (mkF m 26 #[.val (.ref t1)] [(.ref s1), (.ref bo)])) rfl (by rw [hml]; rfl) (argsL := [(.ref s1)]) (rest := []) (lenOf pd_21 rfl) rfl (by show 2 * 0 + _ ≤ _; exact Nat.le_of_eq rfl) (hb hby did0_26) rfl e23 (by decide) (by decide) (fun vb Tb Lb Xb hQb => ?_)
  obtain ⟨rfl, Mb, Kb', Eb2, Fb2, Cb2, Db2, Bb2⟩ := hQb
  have Nb := Fr.app Na Mb
  have KPb := KPa.trans Kb' (allS (Or.inr zo) (allS (Or.inr zb) all0))
  have Zb : n0 ≤ Tb.heap.size := Nat.le_trans Z0 KPb.1
  have SCb := own_staK0 SC KPb
  have Kb := Ka.keep Kb' (allS SOa (allS Sba all0))
  show oG p e below _ Tb (mkF m 29 #[.val (.ref t1)] [(.ref bo)])
  refine own_callV Xb hx Kl.1 (y := (⟨"java/lang/StringBuilder", "toString", "()Ljava/lang/String;"⟩ : MethodName)) (W := 0) (kc := 2) (ks := 8) hownl (oW hw 151 rfl) (oW hw 152 rfl) (oW hw 154 rfl) (oW hw 153 rfl) (own_back (W := 0) (rm_ts4 l Z a0 hw [] bo ho.size kb CS (.int 95) (.int 58) (.int (c0.toInt8.toInt32)) (.int (c1.toInt8.toInt32)) (.int 0) (.int 0) (.int 0) (.int 0) (.int 0) (.int 0) (.int 0) (.int 0) (.int 0) (.int 0) (.int 0) (.int 0) Tb.heap n0 Zb Eb2 Fb2 Cb2 Db2 Bb2 SCb hCS) Kl.1 (oW hw 155 rfl) (oW hw 86 rfl) (by decide) (by decide)) (by decide) (b := bo) Eb2 (g := (mkF m 29 #[.val (.ref t1)] [(.ref bo)])) rfl (by rw [hml]; rfl) (argsL := []) (rest := []) (lenOf pd_22 rfl) rfl (by show 2 * 0 + _ ≤ _; exact Nat.le_of_eq rfl) (hb hby did0_29) rfl rfl (by decide) (by decide) (fun vc Tc Lc Xc hQc => ?_)
  obtain ⟨xc, rc, kc, rfl, Mc, Kc', zc, Ec, Cc, Vc, Bc⟩ := hQc
  have Nc := Fr.app Nb Mc
  have Kc := Kb.keep Kc' all0
  show oG p e below _ Tc (mkF m 32 #[.val (.ref t1)] [(.ref xc)])
  refine oS (fun t k => XS.goto Xc.here hx rfl (pc0 := 32) (pc' := 39) rfl (hb hby did0_32) (by decide) (by decide) k) ?_
  show oG p e below _ Tc (mkF m 39 #[.val (.ref t1)] [(.ref xc)])
  refine own_retHA Xc Kc rfl hx hlk hret rfl rfl (hb hby did0_39) ?_ (by decide) (by decide)
  exact ⟨xc, rfl, Nc, KPb.trans Kc' all0, rc, kc, Ec, Vc, Cc, Bc⟩
theorem efid3 (m : MethodId) (x0 : Addr) : entryFrame m #[(.ref x0)] 1 = mkF m 0 #[.val (.ref x0)] [] := by first | (simp [entryFrame, mkF, argsToLocals, Value.category]; done) | rfl
set_option maxRecDepth 65536 in
set_option maxHeartbeats 40000000 in
theorem rm_id3 (l : Launch) (Z : State) (a0 : Array Value) (hw : ∀ d ∈ tables_1, d.before a0 Z = true) (ws : List Jvm.Cond) (t1 : Addr) (k1 : Addr) (s1 : Addr) (CS : Int32) (c0 : Int32) (c1 : Int32) (c2 : Int32) (h0 : Heap) (n0 : Nat) (Z0 : n0 ≤ h0.size) (hE : EW Z a0 consts_1) (wS : ∀ a ∈ Bundle.stringAtoms, a.before a0 Z = true) (A1 : Fld Z h0 t1 "com/example/rank3/rank3/graph/Term" "kind" "Lcom/example/rank3/rank3/graph/Term$Kind;" (.ref k1)) (B1 : Fld Z h0 t1 "com/example/rank3/rank3/graph/Term" "value" "Ljava/lang/String;" (.ref s1)) (L1 : own_Lat Z h0 s1 ([c0, c1, c2] : List Int32)) (hp : ∀ c ∈ ([c0, c1, c2] : List Int32), ¬ c < 0 ∧ ¬ (255 : Int32) < c) (SB : Sta Z h0 "com/example/rank3/rank3/graph/Term$Kind" "BLANK_NODE" "Lcom/example/rank3/rank3/graph/Term$Kind;" (.ref k1)) (SC : Sta Z h0 "java/lang/String" "COMPACT_STRINGS" "Z" (.int CS)) (hCS : ¬ CS = 0) :
    own_MetH l Z consts_1 ws (⟨"com/example/rank3/rank3/graph/Term", "id", "()Ljava/lang/String;"⟩ : MethodName) prog_15_method_9_code 1 (some (.object "java/lang/String")) ({ frames := 6, cells := 7, slots := 60, locals := 125 } : Room) #[(.ref t1)] h0 (fun v h L => ∃ x : Addr, v = some (.ref x) ∧ Fr n0 L ∧ Keep h0 h [] ∧ own_Lat Z h x ((95 : Int32) :: (58 : Int32) :: ([c0, c1, c2] : List Int32))) (fun _ => True) := by
  refine own_bodyH (plainFor_of_name pn_1) hE ?_
  intro p e s m below meth c s₁ hx hby hml hret hlk hown hnm X0 e0 K0 hPv
  have hZ : Z.Warmed39 s.vm := K0.1
  have hml : c.maxLocals = 1 := hml
  have hown : s.vm.findClass "com/example/rank3/rank3/graph/Term" = some m.cls := hown
  have N0 := Fr.nil n0
  obtain ⟨u1, ku, Es, Vs, Cs, At⟩ := id L1
  refine own_cast (efid3 m t1) ?_
  show oG p e below _ s₁ (mkF m 0 #[.val (.ref t1)] [])
  refine oS (fun t k => XS.aloadN X0.here hx rfl (hb hby did0_0) rfl rfl k) ?_
  show oG p e below _ s₁ (mkF m 1 #[.val (.ref t1)] [(.ref t1)])
  obtain ⟨T1, X1, e1, st1⟩ := getF X0 hx hZ hown (host := "") (Or.inl (oW hw 39 rfl)) Via.refl e0 A1 (g := (mkF m 1 #[.val (.ref t1)] [(.ref t1)])) rfl rfl (hb hby did0_1)
  refine oS st1 ?_
  show oG p e below _ T1 (mkF m 4 #[.val (.ref t1)] [(.ref k1)])
  obtain ⟨T4, X4, e4, st4⟩ := getS2 X1 hx hZ hown (host := "") (Or.inl (oW hw 32 rfl)) Via.refl e1 SB (g := (mkF m 4 #[.val (.ref t1)] [(.ref k1)])) rfl (hb hby did0_4)
  refine oS st4 ?_
  show oG p e below _ T4 (mkF m 7 #[.val (.ref t1)] [(.ref k1), (.ref k1)])
  refine oS (fun t k => Jvm.RoadKit.acmp (g := (mkF m 7 #[.val (.ref t1)] [(.ref k1), (.ref k1)])) X4 hx rfl rfl rfl (pc0 := 7) (pc' := 10) (same := true) rfl (hb hby did0_7) rfl (decide_eq_true rfl) (by decide) (by decide) k) ?_
  show oG p e below _ T4 (mkF m 10 #[.val (.ref t1)] [])
  obtain ⟨To, ho, Xo, eo, Eo, Ao, Do, -, sto⟩ := newO X4 hx hZ hown (oW hw 84 rfl) (oW hw 85 rfl) (oW hw 86 rfl) e4 (g := (mkF m 10 #[.val (.ref t1)] [])) rfl (hb hby did0_10) (by decide) (by decide)
  obtain ⟨bo, go⟩ : ∃ z, z = h0.size := ⟨_, rfl⟩
  rw [← go] at Ao Do sto
  have Fo_value : Fld Z ho bo "java/lang/AbstractStringBuilder" "value" "[B" .null := Do (Or.inl (oW hw 99 rfl)) (ty := (.array .byte)) (by decide)
  have Fo_coder : Fld Z ho bo "java/lang/AbstractStringBuilder" "coder" "B" (.int 0) := Do (Or.inl (oW hw 101 rfl)) (ty := .byte) (by decide)
  have Fo_count : Fld Z ho bo "java/lang/AbstractStringBuilder" "count" "I" (.int 0) := Do (Or.inl (oW hw 125 rfl)) (ty := .int) (by decide)
  refine oS sto ?_
  show oG p e below _ To (mkF m 13 #[.val (.ref t1)] [(.ref bo)])
  have Ko := K0.ext Eo
  have Zo : n0 ≤ ho.size := Nat.le_trans Z0 Eo.1
  have zo : h0.size ≤ bo := Nat.le_of_eq go.symm
  have gO : n0 ≤ bo := Nat.le_trans Z0 zo
  have KP : Keep h0 ho [] := (Keep.refl h0 []).ext Eo
  refine oS (fun t k => XS.dup Xo.here hx rfl (hb hby did0_13) rfl rfl k) ?_
  show oG p e below _ To (mkF m 14 #[.val (.ref t1)] [(.ref bo), (.ref bo)])
  refine own_callI Xo hx hZ (y := (⟨"java/lang/StringBuilder", "<init>", "()V"⟩ : MethodName)) (W := 1) (kc := 1) (ks := 16) rfl hown (oW hw 87 rfl) (oW hw 88 rfl) (oW hw 89 rfl) (own_back (W := 1) (rm_si l Z a0 hw [] bo _ _ CS ho n0 Zo Ao Fo_value Fo_coder Fo_count gO (SC.ext Eo) hCS) hZ (oW hw 89 rfl) (oW hw 86 rfl) (by decide) (by decide)) (by decide) (g := (mkF m 14 #[.val (.ref t1)] [(.ref bo), (.ref bo)])) rfl (by rw [hml]; rfl) (a := bo) (argsL := []) (rest := [(.ref bo)]) (lenOf pd_20 rfl) rfl (by show 2 * 0 + _ ≤ _; exact Nat.le_of_eq rfl) (hb hby did0_14) rfl eo (by decide) (by decide) (fun vi Ti Li Xi hQi => ?_)
  obtain ⟨rfl, Mi, Ki', Eb, kb, Fb, Cb, Db, Bb⟩ := hQi
  have Ni := Fr.app N0 Mi
  have zb : h0.size ≤ ho.size := Eo.1
  have gB : n0 ≤ ho.size := Zo
  have hob : bo ≠ ho.size := Nat.ne_of_lt Ao.lt
  have SO := Safe.exa Ko.1.alike Ao (by decide) (by decide) (EL := consts_1)
  have KPi := KP.trans Ki' (allS (Or.inr zo) all0)
  have Sb := Safe.keep Ki' (allS SO all0) Ko.2.2.1.1 (Safe.new (Nat.le_refl ho.size))
  have Ki := Ko.keep Ki' (allS SO all0)
  show oG p e below _ Ti (mkF m 17 #[.val (.ref t1)] [(.ref bo)])
  refine own_ldc Xi hx Ki (text := "_:") hown (oW hw 102 rfl) wS rfl (by decide) (vs := [(.int 95), (.int 58)]) (z := (2 : Int32)) ⟨by decide, by decide⟩ (by decide) rfl (g := (mkF m 17 #[.val (.ref t1)] [(.ref bo)])) rfl (hb hby did0_17) (n := 8) (by decide) (by decide) (by decide) (by decide) (fun al Tl bl kbl Xl El Kl hownl Rl LEl LCl LVl LAl SFl => ?_)
  show oG p e below _ Tl (mkF m 19 #[.val (.ref t1)] [(.ref al), (.ref bo)])
  have KPl := KPi.ext El
  have Zl : n0 ≤ Tl.heap.size := Nat.le_trans Z0 KPl.1
  have Sbl := Rl.safe Bb.lt Sb
  have Ebl := Eb.ext El
  have SOl := Safe.exa Kl.1.alike Ebl (by decide) (by decide) (EL := consts_1)
  have SCl := own_staK0 SC KPl
  have hp0 : ∀ c ∈ ([95, 58] : List Int32), ¬ c < 0 ∧ ¬ (255 : Int32) < c := by decide
  refine own_callV Xl hx Kl.1 (y := (⟨"java/lang/StringBuilder", "append", "(Ljava/lang/String;)Ljava/lang/StringBuilder;"⟩ : MethodName)) (W := 0) (kc := 0) (ks := 0) hownl (oW hw 103 rfl) (oW hw 104 rfl) (oW hw 106 rfl) (oW hw 105 rfl) (own_back (W := 0) (rm_sa02 l Z a0 hw [] bo ho.size al bl kbl kb CS 95 58 (.int 0) (.int 0) (.int 0) (.int 0) (.int 0) (.int 0) (.int 0) (.int 0) (.int 0) (.int 0) (.int 0) (.int 0) (.int 0) (.int 0) (.int 0) (.int 0) Tl.heap n0 Zl LEl LVl LCl LAl Ebl (Fb.ext El) (Cb.ext El) (Db.ext El) (Bb.ext El) gO gB hob hp0 SCl hCS) Kl.1 (oW hw 107 rfl) (oW hw 86 rfl) (by decide) (by decide)) (by decide) (b := bo) Ebl (g := (mkF m 19 #[.val (.ref t1)] [(.ref al), (.ref bo)])) rfl (by rw [hml]; rfl) (argsL := [(.ref al)]) (rest := []) (lenOf pd_21 rfl) rfl (by show 2 * 0 + _ ≤ _; exact Nat.le_of_eq rfl) (hb hby did0_19) rfl rfl (by decide) (by decide) (fun va Ta La Xa hQa => ?_)
  obtain ⟨rfl, Ma, Ka', Ea, Fa, Ca, Da, Ba⟩ := hQa
  have Na := Fr.app Ni Ma
  have KPa := KPl.trans Ka' (allS (Or.inr zo) (allS (Or.inr zb) all0))
  have Za : n0 ≤ Ta.heap.size := Nat.le_trans Z0 KPa.1
  have Sba := Safe.keep Ka' (allS SOl (allS Sbl all0)) Kl.2.2.1.1 Sbl
  have Ka := Kl.keep Ka' (allS SOl (allS Sbl all0))
  have SOa := Safe.exa Ka.1.alike Ea (by decide) (by decide) (EL := consts_1)
  have SCa := own_staK0 SC KPa
  show oG p e below _ Ta (mkF m 22 #[.val (.ref t1)] [(.ref bo)])
  refine oS (fun t k => XS.aloadN Xa.here hx rfl (hb hby did0_22) rfl rfl k) ?_
  show oG p e below _ Ta (mkF m 23 #[.val (.ref t1)] [(.ref t1), (.ref bo)])
  obtain ⟨T23, X23, e23, st23⟩ := getF Xa hx Kl.1 hownl (host := "") (Or.inl (oW hw 47 rfl)) Via.refl rfl (B1.keep KPa nin0) (g := (mkF m 23 #[.val (.ref t1)] [(.ref t1), (.ref bo)])) rfl rfl (hb hby did0_23)
  refine oS st23 ?_
  show oG p e below _ T23 (mkF m 26 #[.val (.ref t1)] [(.ref s1), (.ref bo)])
  refine own_callV X23 hx Kl.1 (y := (⟨"java/lang/StringBuilder", "append", "(Ljava/lang/String;)Ljava/lang/StringBuilder;"⟩ : MethodName)) (W := 0) (kc := 0) (ks := 0) hownl (oW hw 103 rfl) (oW hw 104 rfl) (oW hw 106 rfl) (oW hw 105 rfl) (own_back (W := 0) (rm_sa23 l Z a0 hw [] bo ho.size s1 u1 ku kb CS c0 c1 c2 (.int 95) (.int 58) (.int 0) (.int 0) (.int 0) (.int 0) (.int 0) (.int 0) (.int 0) (.int 0) (.int 0) (.int 0) (.int 0) (.int 0) (.int 0) (.int 0) Ta.heap n0 Za (Es.keep KPa) (Vs.keep KPa nin0) (Cs.keep KPa nin0) (At.keep KPa nin0) Ea Fa Ca Da Ba gO gB hob hp SCa hCS) Kl.1 (oW hw 107 rfl) (oW hw 86 rfl) (by decide) (by decide)) (by decide) (b := bo) Ea (g := (mkF m 26 #[.val (.ref t1)] [(.ref s1), (.ref bo)])) rfl (by rw [hml]; rfl) (argsL := [(.ref s1)]) (rest := []) (lenOf pd_21 rfl) rfl (by show 2 * 0 + _ ≤ _; exact Nat.le_of_eq rfl) (hb hby did0_26) rfl e23 (by decide) (by decide) (fun vb Tb Lb Xb hQb => ?_)
  obtain ⟨rfl, Mb, Kb', Eb2, Fb2, Cb2, Db2, Bb2⟩ := hQb
  have Nb := Fr.app Na Mb
  have KPb := KPa.trans Kb' (allS (Or.inr zo) (allS (Or.inr zb) all0))
  have Zb : n0 ≤ Tb.heap.size := Nat.le_trans Z0 KPb.1
  have SCb := own_staK0 SC KPb
  have Kb := Ka.keep Kb' (allS SOa (allS Sba all0))
  show oG p e below _ Tb (mkF m 29 #[.val (.ref t1)] [(.ref bo)])
  refine own_callV Xb hx Kl.1 (y := (⟨"java/lang/StringBuilder", "toString", "()Ljava/lang/String;"⟩ : MethodName)) (W := 0) (kc := 2) (ks := 9) hownl (oW hw 151 rfl) (oW hw 152 rfl) (oW hw 154 rfl) (oW hw 153 rfl) (own_back (W := 0) (rm_ts5 l Z a0 hw [] bo ho.size kb CS (.int 95) (.int 58) (.int (c0.toInt8.toInt32)) (.int (c1.toInt8.toInt32)) (.int (c2.toInt8.toInt32)) (.int 0) (.int 0) (.int 0) (.int 0) (.int 0) (.int 0) (.int 0) (.int 0) (.int 0) (.int 0) (.int 0) Tb.heap n0 Zb Eb2 Fb2 Cb2 Db2 Bb2 SCb hCS) Kl.1 (oW hw 155 rfl) (oW hw 86 rfl) (by decide) (by decide)) (by decide) (b := bo) Eb2 (g := (mkF m 29 #[.val (.ref t1)] [(.ref bo)])) rfl (by rw [hml]; rfl) (argsL := []) (rest := []) (lenOf pd_22 rfl) rfl (by show 2 * 0 + _ ≤ _; exact Nat.le_of_eq rfl) (hb hby did0_29) rfl rfl (by decide) (by decide) (fun vc Tc Lc Xc hQc => ?_)
  obtain ⟨xc, rc, kc, rfl, Mc, Kc', zc, Ec, Cc, Vc, Bc⟩ := hQc
  have Nc := Fr.app Nb Mc
  have Kc := Kb.keep Kc' all0
  show oG p e below _ Tc (mkF m 32 #[.val (.ref t1)] [(.ref xc)])
  refine oS (fun t k => XS.goto Xc.here hx rfl (pc0 := 32) (pc' := 39) rfl (hb hby did0_32) (by decide) (by decide) k) ?_
  show oG p e below _ Tc (mkF m 39 #[.val (.ref t1)] [(.ref xc)])
  refine own_retHA Xc Kc rfl hx hlk hret rfl rfl (hb hby did0_39) ?_ (by decide) (by decide)
  exact ⟨xc, rfl, Nc, KPb.trans Kc' all0, rc, kc, Ec, Vc, Cc, Bc⟩
set_option maxRecDepth 65536 in
set_option maxHeartbeats 40000000 in
theorem rm_id (l : Launch) (Z : State) (a0 : Array Value) (hw : ∀ d ∈ tables_1, d.before a0 Z = true) (ws : List Jvm.Cond) (t1 k1 s1 : Addr) (CS : Int32) (n : Nat) (x y z : Int32) (h0 : Heap) (n0 : Nat) (Z0 : n0 ≤ h0.size) (hE : EW Z a0 consts_1) (wS : ∀ a ∈ Bundle.stringAtoms, a.before a0 Z = true) (hn : n ≤ 3) (A1 : Fld Z h0 t1 "com/example/rank3/rank3/graph/Term" "kind" "Lcom/example/rank3/rank3/graph/Term$Kind;" (.ref k1)) (B1 : Fld Z h0 t1 "com/example/rank3/rank3/graph/Term" "value" "Ljava/lang/String;" (.ref s1)) (L1 : own_Lat Z h0 s1 (own_cs n x y z)) (hp : ∀ c ∈ own_cs n x y z, ¬ c < 0 ∧ ¬ (255 : Int32) < c) (SB : Sta Z h0 "com/example/rank3/rank3/graph/Term$Kind" "BLANK_NODE" "Lcom/example/rank3/rank3/graph/Term$Kind;" (.ref k1)) (SC : Sta Z h0 "java/lang/String" "COMPACT_STRINGS" "Z" (.int CS)) (hCS : ¬ CS = 0) :
    own_MetH l Z consts_1 ws (⟨"com/example/rank3/rank3/graph/Term", "id", "()Ljava/lang/String;"⟩ : MethodName) prog_15_method_9_code 1 (some (.object "java/lang/String")) ({ frames := 6, cells := 7, slots := 60, locals := 125 } : Room) #[(.ref t1)] h0 (fun v h L => ∃ i : Addr, v = some (.ref i) ∧ Fr n0 L ∧ Keep h0 h [] ∧ own_Lat Z h i ((95 : Int32) :: (58 : Int32) :: own_cs n x y z)) (fun _ => True) := by
  obtain rfl | rfl | rfl | rfl : n = 0 ∨ n = 1 ∨ n = 2 ∨ n = 3 := by omega
  · exact rm_id0 l Z a0 hw ws t1 k1 s1 CS  h0 n0 Z0 hE wS A1 B1 L1 hp SB SC hCS
  · exact rm_id1 l Z a0 hw ws t1 k1 s1 CS x h0 n0 Z0 hE wS A1 B1 L1 hp SB SC hCS
  · exact rm_id2 l Z a0 hw ws t1 k1 s1 CS x y h0 n0 Z0 hE wS A1 B1 L1 hp SB SC hCS
  · exact rm_id3 l Z a0 hw ws t1 k1 s1 CS x y z h0 n0 Z0 hE wS A1 B1 L1 hp SB SC hCS
theorem ef (m : MethodId) (x0 : Int32) (x1 : Int32) (x2 : Int32) (x3 : Int32) (x4 : Int32) (x5 : Int32) : entryFrame m #[(.int x0), (.int x1), (.int x2), (.int x3), (.int x4), (.int x5)] maxLocals = mkF m 0 #[.val (.int x0), .val (.int x1), .val (.int x2), .val (.int x3), .val (.int x4), .val (.int x5), .unset, .unset, .unset, .unset, .unset, .unset, .unset, .unset, .unset, .unset, .unset, .unset] [] := by first | (simp [entryFrame, mkF, argsToLocals, Value.category, maxLocals]; done) | rfl
theorem pd_23 : parseMethodDescriptor "(ICCC)Ljava/lang/String;" = some ⟨[.int, .char, .char, .char], some (.object "java/lang/String")⟩ := by decide +kernel
theorem pd_24 : parseMethodDescriptor "(Ljava/lang/String;)Lcom/example/rank3/rank3/graph/Term;" = some ⟨[(.object "java/lang/String")], some (.object "com/example/rank3/rank3/graph/Term")⟩ := by decide +kernel
theorem pd_25 : parseMethodDescriptor "()Lcom/example/rank3/rank3/graph/Term$Kind;" = some ⟨[], some (.object "com/example/rank3/rank3/graph/Term$Kind")⟩ := by decide +kernel
theorem pd_26 : parseMethodDescriptor "(I)C" = some ⟨[.int], some .char⟩ := by decide +kernel
set_option maxRecDepth 65536 in
set_option maxHeartbeats 40000000 in
theorem rm0 (l : Launch) (Z : State) (a0 : Array Value) (hw : ∀ d ∈ tables_1, d.before a0 Z = true) (ws : List Jvm.Cond) (p1 : Int32) (p2 : Int32) (p3 : Int32) (p4 : Int32) (p5 : Int32) (p6 : Int32) (k1 : Addr) (k2 : Addr) (CS : Int32) (FM : Value) (h0 : Heap) (n0 : Nat) (Z0 : n0 ≤ h0.size) (hE : EW Z a0 consts_1) (wS : ∀ a ∈ Bundle.stringAtoms, a.before a0 Z = true) (O0 : Old Z n0 h0) (SZ : Sta Z Z.heap "java/lang/String" "COMPACT_STRINGS" "Z" (.int CS)) (hCS : ¬ CS = 0) (FZ : Sta Z Z.heap "jdk/internal/util/Preconditions" "SIOOBE_FORMATTER" "Ljava/util/function/BiFunction;" FM) (rFM : FM.isRef = true) (SB : Sta Z h0 "com/example/rank3/rank3/graph/Term$Kind" "BLANK_NODE" "Lcom/example/rank3/rank3/graph/Term$Kind;" (.ref k1)) (SI : Sta Z h0 "com/example/rank3/rank3/graph/Term$Kind" "IRI" "Lcom/example/rank3/rank3/graph/Term$Kind;" (.ref k2)) (hk : k1 ≠ k2) :
    own_MetH l Z consts_1 ws x code maxLocals ret room_1 #[(.int p1), (.int p2), (.int p3), (.int p4), (.int p5), (.int p6)] h0 (fun v h L => v = some (.int 1) ∧ Fr n0 L) (fun _ => True) := by
  refine own_bodyH (plainFor_of_name pn_3) hE ?_
  intro p e s m below meth c s₁ hx hby hml hret hlk hown hnm X0 e0 K0 hPv
  have hZ : Z.Warmed39 s.vm := K0.1
  have hml : c.maxLocals = 18 := hml
  have hown : s.vm.findClass "com/example/rank3/rank3/graph/TermBlankNodePinLaw" = some m.cls := hown
  have N0 := Fr.nil n0
  have heq : ∀ d ∈ StrChars.Road.wordsEq, d.before a0 Z = true := fun d hd => hw d ((by decide +kernel : ∀ d ∈ StrChars.Road.wordsEq, d ∈ tables_1) d hd)
  have hln : ∀ d ∈ StrChars.Road.wordsLen, d.before a0 Z = true := fun d hd => hw d ((by decide +kernel : ∀ d ∈ StrChars.Road.wordsLen, d ∈ tables_1) d hd)
  have hch : ∀ d ∈ StrChars.Road.wordsChN, d.before a0 Z = true := fun d hd => hw d ((by decide +kernel : ∀ d ∈ StrChars.Road.wordsChN, d ∈ tables_1) d hd)
  have SC := SZ.ext O0.2
  have SF := FZ.ext O0.2
  refine own_cast (ef m p1 p2 p3 p4 p5 p6) ?_
  show oG p e below _ s₁ (mkF m 0 #[.val (.int p1), .val (.int p2), .val (.int p3), .val (.int p4), .val (.int p5), .val (.int p6), .unset, .unset, .unset, .unset, .unset, .unset, .unset, .unset, .unset, .unset, .unset, .unset] [])
  refine oS (fun t k => XS.iloadN X0.here hx rfl (hb hby at_0) rfl  k) ?_
  refine oS (fun t k => XS.iconst X0.here hx rfl (hb hby at_1) k) ?_
  refine oS (fun t k => XS.iand X0.here hx rfl (hb hby at_2) rfl k) ?_
  show oG p e below _ s₁ (mkF m 3 #[.val (.int p1), .val (.int p2), .val (.int p3), .val (.int p4), .val (.int p5), .val (.int p6), .unset, .unset, .unset, .unset, .unset, .unset, .unset, .unset, .unset, .unset, .unset, .unset] [(.int (p1 &&& (3 : Int32)))])
  refine oS (fun t k => XS.istore X0.here hx rfl (hb hby at_3) rfl (l' := #[.val (.int p1), .val (.int p2), .val (.int p3), .val (.int p4), .val (.int p5), .val (.int p6), .val (.int (p1 &&& (3 : Int32))), .unset, .unset, .unset, .unset, .unset, .unset, .unset, .unset, .unset, .unset, .unset]) rfl k) ?_
  show oG p e below _ s₁ (mkF m 5 #[.val (.int p1), .val (.int p2), .val (.int p3), .val (.int p4), .val (.int p5), .val (.int p6), .val (.int (p1 &&& (3 : Int32))), .unset, .unset, .unset, .unset, .unset, .unset, .unset, .unset, .unset, .unset, .unset] [])
  refine oS (fun t k => XS.iloadN X0.here hx rfl (hb hby at_5) rfl  k) ?_
  refine oS (fun t k => XS.sipush X0.here hx rfl (hb hby at_6) k) ?_
  refine oS (fun t k => XS.iand X0.here hx rfl (hb hby at_9) rfl k) ?_
  show oG p e below _ s₁ (mkF m 10 #[.val (.int p1), .val (.int p2), .val (.int p3), .val (.int p4), .val (.int p5), .val (.int p6), .val (.int (p1 &&& (3 : Int32))), .unset, .unset, .unset, .unset, .unset, .unset, .unset, .unset, .unset, .unset, .unset] [(.int (p2 &&& (255 : Int32)))])
  refine oS (fun t k => XS.i2c X0.here hx rfl (hb hby at_10) rfl k) ?_
  show oG p e below _ s₁ (mkF m 11 #[.val (.int p1), .val (.int p2), .val (.int p3), .val (.int p4), .val (.int p5), .val (.int p6), .val (.int (p1 &&& (3 : Int32))), .unset, .unset, .unset, .unset, .unset, .unset, .unset, .unset, .unset, .unset, .unset] [(.int ((p2 &&& (255 : Int32)).toUInt32.toUInt16.toUInt32.toInt32))])
  refine oS (fun t k => XS.istore X0.here hx rfl (hb hby at_11) rfl (l' := #[.val (.int p1), .val (.int p2), .val (.int p3), .val (.int p4), .val (.int p5), .val (.int p6), .val (.int (p1 &&& (3 : Int32))), .val (.int ((p2 &&& (255 : Int32)).toUInt32.toUInt16.toUInt32.toInt32)), .unset, .unset, .unset, .unset, .unset, .unset, .unset, .unset, .unset, .unset]) rfl k) ?_
  show oG p e below _ s₁ (mkF m 13 #[.val (.int p1), .val (.int p2), .val (.int p3), .val (.int p4), .val (.int p5), .val (.int p6), .val (.int (p1 &&& (3 : Int32))), .val (.int ((p2 &&& (255 : Int32)).toUInt32.toUInt16.toUInt32.toInt32)), .unset, .unset, .unset, .unset, .unset, .unset, .unset, .unset, .unset, .unset] [])
  refine oS (fun t k => XS.iloadN X0.here hx rfl (hb hby at_13) rfl  k) ?_
  refine oS (fun t k => XS.sipush X0.here hx rfl (hb hby at_14) k) ?_
  refine oS (fun t k => XS.iand X0.here hx rfl (hb hby at_17) rfl k) ?_
  show oG p e below _ s₁ (mkF m 18 #[.val (.int p1), .val (.int p2), .val (.int p3), .val (.int p4), .val (.int p5), .val (.int p6), .val (.int (p1 &&& (3 : Int32))), .val (.int ((p2 &&& (255 : Int32)).toUInt32.toUInt16.toUInt32.toInt32)), .unset, .unset, .unset, .unset, .unset, .unset, .unset, .unset, .unset, .unset] [(.int (p3 &&& (255 : Int32)))])
  refine oS (fun t k => XS.i2c X0.here hx rfl (hb hby at_18) rfl k) ?_
  show oG p e below _ s₁ (mkF m 19 #[.val (.int p1), .val (.int p2), .val (.int p3), .val (.int p4), .val (.int p5), .val (.int p6), .val (.int (p1 &&& (3 : Int32))), .val (.int ((p2 &&& (255 : Int32)).toUInt32.toUInt16.toUInt32.toInt32)), .unset, .unset, .unset, .unset, .unset, .unset, .unset, .unset, .unset, .unset] [(.int ((p3 &&& (255 : Int32)).toUInt32.toUInt16.toUInt32.toInt32))])
  refine oS (fun t k => XS.istore X0.here hx rfl (hb hby at_19) rfl (l' := #[.val (.int p1), .val (.int p2), .val (.int p3), .val (.int p4), .val (.int p5), .val (.int p6), .val (.int (p1 &&& (3 : Int32))), .val (.int ((p2 &&& (255 : Int32)).toUInt32.toUInt16.toUInt32.toInt32)), .val (.int ((p3 &&& (255 : Int32)).toUInt32.toUInt16.toUInt32.toInt32)), .unset, .unset, .unset, .unset, .unset, .unset, .unset, .unset, .unset]) rfl k) ?_
  show oG p e below _ s₁ (mkF m 21 #[.val (.int p1), .val (.int p2), .val (.int p3), .val (.int p4), .val (.int p5), .val (.int p6), .val (.int (p1 &&& (3 : Int32))), .val (.int ((p2 &&& (255 : Int32)).toUInt32.toUInt16.toUInt32.toInt32)), .val (.int ((p3 &&& (255 : Int32)).toUInt32.toUInt16.toUInt32.toInt32)), .unset, .unset, .unset, .unset, .unset, .unset, .unset, .unset, .unset] [])
  refine oS (fun t k => XS.iloadN X0.here hx rfl (hb hby at_21) rfl  k) ?_
  refine oS (fun t k => XS.sipush X0.here hx rfl (hb hby at_22) k) ?_
  refine oS (fun t k => XS.iand X0.here hx rfl (hb hby at_25) rfl k) ?_
  show oG p e below _ s₁ (mkF m 26 #[.val (.int p1), .val (.int p2), .val (.int p3), .val (.int p4), .val (.int p5), .val (.int p6), .val (.int (p1 &&& (3 : Int32))), .val (.int ((p2 &&& (255 : Int32)).toUInt32.toUInt16.toUInt32.toInt32)), .val (.int ((p3 &&& (255 : Int32)).toUInt32.toUInt16.toUInt32.toInt32)), .unset, .unset, .unset, .unset, .unset, .unset, .unset, .unset, .unset] [(.int (p4 &&& (255 : Int32)))])
  refine oS (fun t k => XS.i2c X0.here hx rfl (hb hby at_26) rfl k) ?_
  show oG p e below _ s₁ (mkF m 27 #[.val (.int p1), .val (.int p2), .val (.int p3), .val (.int p4), .val (.int p5), .val (.int p6), .val (.int (p1 &&& (3 : Int32))), .val (.int ((p2 &&& (255 : Int32)).toUInt32.toUInt16.toUInt32.toInt32)), .val (.int ((p3 &&& (255 : Int32)).toUInt32.toUInt16.toUInt32.toInt32)), .unset, .unset, .unset, .unset, .unset, .unset, .unset, .unset, .unset] [(.int ((p4 &&& (255 : Int32)).toUInt32.toUInt16.toUInt32.toInt32))])
  refine oS (fun t k => XS.istore X0.here hx rfl (hb hby at_27) rfl (l' := #[.val (.int p1), .val (.int p2), .val (.int p3), .val (.int p4), .val (.int p5), .val (.int p6), .val (.int (p1 &&& (3 : Int32))), .val (.int ((p2 &&& (255 : Int32)).toUInt32.toUInt16.toUInt32.toInt32)), .val (.int ((p3 &&& (255 : Int32)).toUInt32.toUInt16.toUInt32.toInt32)), .val (.int ((p4 &&& (255 : Int32)).toUInt32.toUInt16.toUInt32.toInt32)), .unset, .unset, .unset, .unset, .unset, .unset, .unset, .unset]) rfl k) ?_
  show oG p e below _ s₁ (mkF m 29 #[.val (.int p1), .val (.int p2), .val (.int p3), .val (.int p4), .val (.int p5), .val (.int p6), .val (.int (p1 &&& (3 : Int32))), .val (.int ((p2 &&& (255 : Int32)).toUInt32.toUInt16.toUInt32.toInt32)), .val (.int ((p3 &&& (255 : Int32)).toUInt32.toUInt16.toUInt32.toInt32)), .val (.int ((p4 &&& (255 : Int32)).toUInt32.toUInt16.toUInt32.toInt32)), .unset, .unset, .unset, .unset, .unset, .unset, .unset, .unset] [])
  refine oS (fun t k => XS.iload X0.here hx rfl (hb hby at_29) rfl  k) ?_
  refine oS (fun t k => XS.iconst X0.here hx rfl (hb hby at_31) k) ?_
  refine oS (fun t k => XS.iand X0.here hx rfl (hb hby at_32) rfl k) ?_
  show oG p e below _ s₁ (mkF m 33 #[.val (.int p1), .val (.int p2), .val (.int p3), .val (.int p4), .val (.int p5), .val (.int p6), .val (.int (p1 &&& (3 : Int32))), .val (.int ((p2 &&& (255 : Int32)).toUInt32.toUInt16.toUInt32.toInt32)), .val (.int ((p3 &&& (255 : Int32)).toUInt32.toUInt16.toUInt32.toInt32)), .val (.int ((p4 &&& (255 : Int32)).toUInt32.toUInt16.toUInt32.toInt32)), .unset, .unset, .unset, .unset, .unset, .unset, .unset, .unset] [(.int (p5 &&& (3 : Int32)))])
  refine oS (fun t k => XS.istore X0.here hx rfl (hb hby at_33) rfl (l' := #[.val (.int p1), .val (.int p2), .val (.int p3), .val (.int p4), .val (.int p5), .val (.int p6), .val (.int (p1 &&& (3 : Int32))), .val (.int ((p2 &&& (255 : Int32)).toUInt32.toUInt16.toUInt32.toInt32)), .val (.int ((p3 &&& (255 : Int32)).toUInt32.toUInt16.toUInt32.toInt32)), .val (.int ((p4 &&& (255 : Int32)).toUInt32.toUInt16.toUInt32.toInt32)), .val (.int (p5 &&& (3 : Int32))), .unset, .unset, .unset, .unset, .unset, .unset, .unset]) rfl k) ?_
  show oG p e below _ s₁ (mkF m 35 #[.val (.int p1), .val (.int p2), .val (.int p3), .val (.int p4), .val (.int p5), .val (.int p6), .val (.int (p1 &&& (3 : Int32))), .val (.int ((p2 &&& (255 : Int32)).toUInt32.toUInt16.toUInt32.toInt32)), .val (.int ((p3 &&& (255 : Int32)).toUInt32.toUInt16.toUInt32.toInt32)), .val (.int ((p4 &&& (255 : Int32)).toUInt32.toUInt16.toUInt32.toInt32)), .val (.int (p5 &&& (3 : Int32))), .unset, .unset, .unset, .unset, .unset, .unset, .unset] [])
  refine oS (fun t k => XS.iload X0.here hx rfl (hb hby at_35) rfl  k) ?_
  refine oS (fun t k => XS.sipush X0.here hx rfl (hb hby at_37) k) ?_
  refine oS (fun t k => XS.iand X0.here hx rfl (hb hby at_40) rfl k) ?_
  show oG p e below _ s₁ (mkF m 41 #[.val (.int p1), .val (.int p2), .val (.int p3), .val (.int p4), .val (.int p5), .val (.int p6), .val (.int (p1 &&& (3 : Int32))), .val (.int ((p2 &&& (255 : Int32)).toUInt32.toUInt16.toUInt32.toInt32)), .val (.int ((p3 &&& (255 : Int32)).toUInt32.toUInt16.toUInt32.toInt32)), .val (.int ((p4 &&& (255 : Int32)).toUInt32.toUInt16.toUInt32.toInt32)), .val (.int (p5 &&& (3 : Int32))), .unset, .unset, .unset, .unset, .unset, .unset, .unset] [(.int (p6 &&& (255 : Int32)))])
  refine oS (fun t k => XS.i2c X0.here hx rfl (hb hby at_41) rfl k) ?_
  show oG p e below _ s₁ (mkF m 42 #[.val (.int p1), .val (.int p2), .val (.int p3), .val (.int p4), .val (.int p5), .val (.int p6), .val (.int (p1 &&& (3 : Int32))), .val (.int ((p2 &&& (255 : Int32)).toUInt32.toUInt16.toUInt32.toInt32)), .val (.int ((p3 &&& (255 : Int32)).toUInt32.toUInt16.toUInt32.toInt32)), .val (.int ((p4 &&& (255 : Int32)).toUInt32.toUInt16.toUInt32.toInt32)), .val (.int (p5 &&& (3 : Int32))), .unset, .unset, .unset, .unset, .unset, .unset, .unset] [(.int ((p6 &&& (255 : Int32)).toUInt32.toUInt16.toUInt32.toInt32))])
  refine oS (fun t k => XS.istore X0.here hx rfl (hb hby at_42) rfl (l' := #[.val (.int p1), .val (.int p2), .val (.int p3), .val (.int p4), .val (.int p5), .val (.int p6), .val (.int (p1 &&& (3 : Int32))), .val (.int ((p2 &&& (255 : Int32)).toUInt32.toUInt16.toUInt32.toInt32)), .val (.int ((p3 &&& (255 : Int32)).toUInt32.toUInt16.toUInt32.toInt32)), .val (.int ((p4 &&& (255 : Int32)).toUInt32.toUInt16.toUInt32.toInt32)), .val (.int (p5 &&& (3 : Int32))), .val (.int ((p6 &&& (255 : Int32)).toUInt32.toUInt16.toUInt32.toInt32)), .unset, .unset, .unset, .unset, .unset, .unset]) rfl k) ?_
  show oG p e below _ s₁ (mkF m 44 #[.val (.int p1), .val (.int p2), .val (.int p3), .val (.int p4), .val (.int p5), .val (.int p6), .val (.int (p1 &&& (3 : Int32))), .val (.int ((p2 &&& (255 : Int32)).toUInt32.toUInt16.toUInt32.toInt32)), .val (.int ((p3 &&& (255 : Int32)).toUInt32.toUInt16.toUInt32.toInt32)), .val (.int ((p4 &&& (255 : Int32)).toUInt32.toUInt16.toUInt32.toInt32)), .val (.int (p5 &&& (3 : Int32))), .val (.int ((p6 &&& (255 : Int32)).toUInt32.toUInt16.toUInt32.toInt32)), .unset, .unset, .unset, .unset, .unset, .unset] [])
  have hcx := own_b255 p2
  generalize ((p2 &&& (255 : Int32)).toUInt32.toUInt16.toUInt32.toInt32) = x1 at hcx ⊢
  have hcy := own_b255 p3
  generalize ((p3 &&& (255 : Int32)).toUInt32.toUInt16.toUInt32.toInt32) = y1 at hcy ⊢
  have hcz := own_b255 p4
  generalize ((p4 &&& (255 : Int32)).toUInt32.toUInt16.toUInt32.toInt32) = z1 at hcz ⊢
  have hcw := own_b255 p6
  generalize ((p6 &&& (255 : Int32)).toUInt32.toUInt16.toUInt32.toInt32) = w1 at hcw ⊢
  obtain ⟨n1, hn1, hq1⟩ := own_m3n p1
  obtain ⟨n2, hn2, hq2⟩ := own_m3n p5
  rw [hq1, hq2]
  show oG p e below _ s₁ (mkF m 44 #[.val (.int p1), .val (.int p2), .val (.int p3), .val (.int p4), .val (.int p5), .val (.int p6), .val (.int (Int32.ofNat n1)), .val (.int x1), .val (.int y1), .val (.int z1), .val (.int (Int32.ofNat n2)), .val (.int w1), .unset, .unset, .unset, .unset, .unset, .unset] [])
  have hp1 : ∀ c ∈ own_cs n1 x1 y1 z1, ¬ c < 0 ∧ ¬ (255 : Int32) < c := own_csb hcx hcy hcz
  have hl1 : (own_cs n1 x1 y1 z1).length ≤ 4000 := own_csl
  have hp2 : ∀ c ∈ own_cs n2 x1 y1 w1, ¬ c < 0 ∧ ¬ (255 : Int32) < c := own_csb hcx hcy hcw
  have hl2 : (own_cs n2 x1 y1 w1).length ≤ 4000 := own_csl
  have ZZ := Z0
  have OO := O0
  refine oS (fun t k => XS.iload X0.here hx rfl (hb hby at_44) rfl  k) ?_
  refine oS (fun t k => XS.iload X0.here hx rfl (hb hby at_46) rfl  k) ?_
  refine oS (fun t k => XS.iload X0.here hx rfl (hb hby at_48) rfl  k) ?_
  refine oS (fun t k => XS.iload X0.here hx rfl (hb hby at_50) rfl  k) ?_
  show oG p e below _ s₁ (mkF m 52 #[.val (.int p1), .val (.int p2), .val (.int p3), .val (.int p4), .val (.int p5), .val (.int p6), .val (.int (Int32.ofNat n1)), .val (.int x1), .val (.int y1), .val (.int z1), .val (.int (Int32.ofNat n2)), .val (.int w1), .unset, .unset, .unset, .unset, .unset, .unset] [(.int z1), (.int y1), (.int x1), (.int (Int32.ofNat n1))])
  refine own_callSH X0 hx K0 (y := (⟨"com/example/rank3/rank3/graph/TermBlankNodePinLaw", "mk", "(ICCC)Ljava/lang/String;"⟩ : MethodName)) (W := 0) (kc := 6) (ks := 16) hown (oW hw 0 rfl) (oW hw 1 rfl) (oW hw 2 rfl) (oW hw 3 rfl) (own_backH (W := 0) (rm_mk l Z a0 hw [] n1 x1 y1 z1 CS h0 n0 ZZ hE wS hn1 hcx hcy hcz SZ hCS OO) K0 (fun _ _ => trivial) (oW hw 3 rfl) (oW hw 2 rfl) (by decide) (by decide)) (by decide) (g := (mkF m 52 #[.val (.int p1), .val (.int p2), .val (.int p3), .val (.int p4), .val (.int p5), .val (.int p6), .val (.int (Int32.ofNat n1)), .val (.int x1), .val (.int y1), .val (.int z1), .val (.int (Int32.ofNat n2)), .val (.int w1), .unset, .unset, .unset, .unset, .unset, .unset] [(.int z1), (.int y1), (.int x1), (.int (Int32.ofNat n1))])) rfl (by rw [hml]; rfl) (argsL := [(.int (Int32.ofNat n1)), (.int x1), (.int y1), (.int z1)]) (rest := []) (lenOf pd_23 rfl) rfl (by show 2 * 0 + _ ≤ _; exact Nat.le_of_eq rfl) (hb hby at_52) rfl e0 (by decide) (by decide) (fun vu Tu Lu Xu hQu Ku hownu Ru => ?_)
  obtain ⟨au, rfl, Mu, KPu, gu, LU⟩ := hQu
  have Nu := Fr.app N0 Mu
  have ZZ : n0 ≤ Tu.heap.size := Nat.le_trans ZZ KPu.1
  have OO := OO.keep KPu all0
  have SC := own_staK0 SC KPu
  have SF := own_staK0 SF KPu
  have SB := own_staK0 SB KPu
  have SI := own_staK0 SI KPu
  show oG p e below _ Tu (mkF m 55 #[.val (.int p1), .val (.int p2), .val (.int p3), .val (.int p4), .val (.int p5), .val (.int p6), .val (.int (Int32.ofNat n1)), .val (.int x1), .val (.int y1), .val (.int z1), .val (.int (Int32.ofNat n2)), .val (.int w1), .unset, .unset, .unset, .unset, .unset, .unset] [(.ref au)])
  refine oS (fun t k => XS.astore Xu.here hx rfl (hb hby at_55) rfl rfl (l' := #[.val (.int p1), .val (.int p2), .val (.int p3), .val (.int p4), .val (.int p5), .val (.int p6), .val (.int (Int32.ofNat n1)), .val (.int x1), .val (.int y1), .val (.int z1), .val (.int (Int32.ofNat n2)), .val (.int w1), .val (.ref au), .unset, .unset, .unset, .unset, .unset]) rfl k) ?_
  show oG p e below _ Tu (mkF m 57 #[.val (.int p1), .val (.int p2), .val (.int p3), .val (.int p4), .val (.int p5), .val (.int p6), .val (.int (Int32.ofNat n1)), .val (.int x1), .val (.int y1), .val (.int z1), .val (.int (Int32.ofNat n2)), .val (.int w1), .val (.ref au), .unset, .unset, .unset, .unset, .unset] [])
  refine oS (fun t k => XS.iload Xu.here hx rfl (hb hby at_57) rfl  k) ?_
  refine oS (fun t k => XS.iload Xu.here hx rfl (hb hby at_59) rfl  k) ?_
  refine oS (fun t k => XS.iload Xu.here hx rfl (hb hby at_61) rfl  k) ?_
  refine oS (fun t k => XS.iload Xu.here hx rfl (hb hby at_63) rfl  k) ?_
  show oG p e below _ Tu (mkF m 65 #[.val (.int p1), .val (.int p2), .val (.int p3), .val (.int p4), .val (.int p5), .val (.int p6), .val (.int (Int32.ofNat n1)), .val (.int x1), .val (.int y1), .val (.int z1), .val (.int (Int32.ofNat n2)), .val (.int w1), .val (.ref au), .unset, .unset, .unset, .unset, .unset] [(.int w1), (.int y1), (.int x1), (.int (Int32.ofNat n2))])
  refine own_callSH Xu hx Ku (y := (⟨"com/example/rank3/rank3/graph/TermBlankNodePinLaw", "mk", "(ICCC)Ljava/lang/String;"⟩ : MethodName)) (W := 0) (kc := 6) (ks := 16) hownu (oW hw 0 rfl) (oW hw 1 rfl) (oW hw 2 rfl) (oW hw 3 rfl) (own_backH (W := 0) (rm_mk l Z a0 hw [] n2 x1 y1 w1 CS Tu.heap n0 ZZ hE wS hn2 hcx hcy hcw SZ hCS OO) Ku (fun _ _ => trivial) (oW hw 3 rfl) (oW hw 2 rfl) (by decide) (by decide)) (by decide) (g := (mkF m 65 #[.val (.int p1), .val (.int p2), .val (.int p3), .val (.int p4), .val (.int p5), .val (.int p6), .val (.int (Int32.ofNat n1)), .val (.int x1), .val (.int y1), .val (.int z1), .val (.int (Int32.ofNat n2)), .val (.int w1), .val (.ref au), .unset, .unset, .unset, .unset, .unset] [(.int w1), (.int y1), (.int x1), (.int (Int32.ofNat n2))])) rfl (by rw [hml]; rfl) (argsL := [(.int (Int32.ofNat n2)), (.int x1), (.int y1), (.int w1)]) (rest := []) (lenOf pd_23 rfl) rfl (by show 2 * 0 + _ ≤ _; exact Nat.le_of_eq rfl) (hb hby at_65) rfl rfl (by decide) (by decide) (fun vv Tv Lv Xv hQv Kv hownv Rv => ?_)
  obtain ⟨av, rfl, Mv, KPv, gv, LV⟩ := hQv
  have Nv := Fr.app Nu Mv
  have ZZ : n0 ≤ Tv.heap.size := Nat.le_trans ZZ KPv.1
  have OO := OO.keep KPv all0
  have SC := own_staK0 SC KPv
  have SF := own_staK0 SF KPv
  have SB := own_staK0 SB KPv
  have SI := own_staK0 SI KPv
  have LU := LU.keep0 KPv
  show oG p e below _ Tv (mkF m 68 #[.val (.int p1), .val (.int p2), .val (.int p3), .val (.int p4), .val (.int p5), .val (.int p6), .val (.int (Int32.ofNat n1)), .val (.int x1), .val (.int y1), .val (.int z1), .val (.int (Int32.ofNat n2)), .val (.int w1), .val (.ref au), .unset, .unset, .unset, .unset, .unset] [(.ref av)])
  refine oS (fun t k => XS.astore Xv.here hx rfl (hb hby at_68) rfl rfl (l' := #[.val (.int p1), .val (.int p2), .val (.int p3), .val (.int p4), .val (.int p5), .val (.int p6), .val (.int (Int32.ofNat n1)), .val (.int x1), .val (.int y1), .val (.int z1), .val (.int (Int32.ofNat n2)), .val (.int w1), .val (.ref au), .val (.ref av), .unset, .unset, .unset, .unset]) rfl k) ?_
  show oG p e below _ Tv (mkF m 70 #[.val (.int p1), .val (.int p2), .val (.int p3), .val (.int p4), .val (.int p5), .val (.int p6), .val (.int (Int32.ofNat n1)), .val (.int x1), .val (.int y1), .val (.int z1), .val (.int (Int32.ofNat n2)), .val (.int w1), .val (.ref au), .val (.ref av), .unset, .unset, .unset, .unset] [])
  refine oS (fun t k => XS.aload Xv.here hx rfl (hb hby at_70) rfl rfl k) ?_
  show oG p e below _ Tv (mkF m 72 #[.val (.int p1), .val (.int p2), .val (.int p3), .val (.int p4), .val (.int p5), .val (.int p6), .val (.int (Int32.ofNat n1)), .val (.int x1), .val (.int y1), .val (.int z1), .val (.int (Int32.ofNat n2)), .val (.int w1), .val (.ref au), .val (.ref av), .unset, .unset, .unset, .unset] [(.ref au)])
  refine own_callSH Xv hx Kv (y := (⟨"com/example/rank3/rank3/graph/Term", "blankNode", "(Ljava/lang/String;)Lcom/example/rank3/rank3/graph/Term;"⟩ : MethodName)) (W := 0) (kc := 3) (ks := 28) hownv (oW hw 26 rfl) (oW hw 27 rfl) (oW hw 28 rfl) (oW hw 29 rfl) (own_backH (W := 0) (rm_blankNode l Z a0 hw [] au k1 Tv.heap n0 ZZ hE wS SB (own_Lat.exa LU)) Kv (fun _ _ => trivial) (oW hw 29 rfl) (oW hw 28 rfl) (by decide) (by decide)) (by decide) (g := (mkF m 72 #[.val (.int p1), .val (.int p2), .val (.int p3), .val (.int p4), .val (.int p5), .val (.int p6), .val (.int (Int32.ofNat n1)), .val (.int x1), .val (.int y1), .val (.int z1), .val (.int (Int32.ofNat n2)), .val (.int w1), .val (.ref au), .val (.ref av), .unset, .unset, .unset, .unset] [(.ref au)])) rfl (by rw [hml]; rfl) (argsL := [(.ref au)]) (rest := []) (lenOf pd_24 rfl) rfl (by show 2 * 0 + _ ≤ _; exact Nat.le_of_eq rfl) (hb hby at_72) rfl rfl (by decide) (by decide) (fun vw Tw Lw Xw hQw Kw hownw Rw => ?_)
  obtain ⟨bt, rfl, Mw, KPw, -, -, tE, tK, tV, tD, tG⟩ := hQw
  have Nw := Fr.app Nv Mw
  have ZZ : n0 ≤ Tw.heap.size := Nat.le_trans ZZ KPw.1
  have OO := OO.keep KPw all0
  have SC := own_staK0 SC KPw
  have SF := own_staK0 SF KPw
  have SB := own_staK0 SB KPw
  have SI := own_staK0 SI KPw
  have LU := LU.keep0 KPw
  have LV := LV.keep0 KPw
  show oG p e below _ Tw (mkF m 75 #[.val (.int p1), .val (.int p2), .val (.int p3), .val (.int p4), .val (.int p5), .val (.int p6), .val (.int (Int32.ofNat n1)), .val (.int x1), .val (.int y1), .val (.int z1), .val (.int (Int32.ofNat n2)), .val (.int w1), .val (.ref au), .val (.ref av), .unset, .unset, .unset, .unset] [(.ref bt)])
  refine oS (fun t k => XS.astore Xw.here hx rfl (hb hby at_75) rfl rfl (l' := #[.val (.int p1), .val (.int p2), .val (.int p3), .val (.int p4), .val (.int p5), .val (.int p6), .val (.int (Int32.ofNat n1)), .val (.int x1), .val (.int y1), .val (.int z1), .val (.int (Int32.ofNat n2)), .val (.int w1), .val (.ref au), .val (.ref av), .val (.ref bt), .unset, .unset, .unset]) rfl k) ?_
  show oG p e below _ Tw (mkF m 77 #[.val (.int p1), .val (.int p2), .val (.int p3), .val (.int p4), .val (.int p5), .val (.int p6), .val (.int (Int32.ofNat n1)), .val (.int x1), .val (.int y1), .val (.int z1), .val (.int (Int32.ofNat n2)), .val (.int w1), .val (.ref au), .val (.ref av), .val (.ref bt), .unset, .unset, .unset] [])
  refine oS (fun t k => XS.aload Xw.here hx rfl (hb hby at_77) rfl rfl k) ?_
  show oG p e below _ Tw (mkF m 79 #[.val (.int p1), .val (.int p2), .val (.int p3), .val (.int p4), .val (.int p5), .val (.int p6), .val (.int (Int32.ofNat n1)), .val (.int x1), .val (.int y1), .val (.int z1), .val (.int (Int32.ofNat n2)), .val (.int w1), .val (.ref au), .val (.ref av), .val (.ref bt), .unset, .unset, .unset] [(.ref bt)])
  refine own_callV Xw hx Kw.1 (y := (⟨"com/example/rank3/rank3/graph/Term", "kind", "()Lcom/example/rank3/rank3/graph/Term$Kind;"⟩ : MethodName)) (W := 0) (kc := 0) (ks := 0) hownw (oW hw 53 rfl) (oW hw 54 rfl) (oW hw 56 rfl) (oW hw 55 rfl) (own_back (W := 0) (rm_gkind l Z a0 hw [] bt k1 Tw.heap n0 ZZ tK) Kw.1 (oW hw 57 rfl) (oW hw 28 rfl) (by decide) (by decide)) (by decide) (b := bt) tE (g := (mkF m 79 #[.val (.int p1), .val (.int p2), .val (.int p3), .val (.int p4), .val (.int p5), .val (.int p6), .val (.int (Int32.ofNat n1)), .val (.int x1), .val (.int y1), .val (.int z1), .val (.int (Int32.ofNat n2)), .val (.int w1), .val (.ref au), .val (.ref av), .val (.ref bt), .unset, .unset, .unset] [(.ref bt)])) rfl (by rw [hml]; rfl) (argsL := []) (rest := []) (lenOf pd_25 rfl) rfl (by show 2 * 0 + _ ≤ _; exact Nat.le_of_eq rfl) (hb hby at_79) rfl rfl (by decide) (by decide) (fun va Ta La Xa hQa => ?_)
  obtain ⟨rfl, Ma, ea⟩ := hQa
  have Na := Fr.app Nw Ma
  show oG p e below _ Ta (mkF m 82 #[.val (.int p1), .val (.int p2), .val (.int p3), .val (.int p4), .val (.int p5), .val (.int p6), .val (.int (Int32.ofNat n1)), .val (.int x1), .val (.int y1), .val (.int z1), .val (.int (Int32.ofNat n2)), .val (.int w1), .val (.ref au), .val (.ref av), .val (.ref bt), .unset, .unset, .unset] [(.ref k1)])
  obtain ⟨T82, X82, e82, st82⟩ := getS2 Xa hx Kw.1 hownw (host := "") (Or.inl (oW hw 58 rfl)) Via.refl ea SB (g := (mkF m 82 #[.val (.int p1), .val (.int p2), .val (.int p3), .val (.int p4), .val (.int p5), .val (.int p6), .val (.int (Int32.ofNat n1)), .val (.int x1), .val (.int y1), .val (.int z1), .val (.int (Int32.ofNat n2)), .val (.int w1), .val (.ref au), .val (.ref av), .val (.ref bt), .unset, .unset, .unset] [(.ref k1)])) rfl (hb hby at_82)
  refine oS st82 ?_
  show oG p e below _ T82 (mkF m 85 #[.val (.int p1), .val (.int p2), .val (.int p3), .val (.int p4), .val (.int p5), .val (.int p6), .val (.int (Int32.ofNat n1)), .val (.int x1), .val (.int y1), .val (.int z1), .val (.int (Int32.ofNat n2)), .val (.int w1), .val (.ref au), .val (.ref av), .val (.ref bt), .unset, .unset, .unset] [(.ref k1), (.ref k1)])
  refine oS (fun t k => Jvm.RoadKit.acmp (g := (mkF m 85 #[.val (.int p1), .val (.int p2), .val (.int p3), .val (.int p4), .val (.int p5), .val (.int p6), .val (.int (Int32.ofNat n1)), .val (.int x1), .val (.int y1), .val (.int z1), .val (.int (Int32.ofNat n2)), .val (.int w1), .val (.ref au), .val (.ref av), .val (.ref bt), .unset, .unset, .unset] [(.ref k1), (.ref k1)])) X82 hx rfl rfl rfl (pc0 := 85) (pc' := 90) (same := true) rfl (hb hby at_85) rfl (decide_eq_true rfl) (by decide) (by decide) k) ?_
  show oG p e below _ T82 (mkF m 90 #[.val (.int p1), .val (.int p2), .val (.int p3), .val (.int p4), .val (.int p5), .val (.int p6), .val (.int (Int32.ofNat n1)), .val (.int x1), .val (.int y1), .val (.int z1), .val (.int (Int32.ofNat n2)), .val (.int w1), .val (.ref au), .val (.ref av), .val (.ref bt), .unset, .unset, .unset] [])
  refine oS (fun t k => XS.aload X82.here hx rfl (hb hby at_90) rfl rfl k) ?_
  show oG p e below _ T82 (mkF m 92 #[.val (.int p1), .val (.int p2), .val (.int p3), .val (.int p4), .val (.int p5), .val (.int p6), .val (.int (Int32.ofNat n1)), .val (.int x1), .val (.int y1), .val (.int z1), .val (.int (Int32.ofNat n2)), .val (.int w1), .val (.ref au), .val (.ref av), .val (.ref bt), .unset, .unset, .unset] [(.ref bt)])
  refine own_callV X82 hx Kw.1 (y := (⟨"com/example/rank3/rank3/graph/Term", "value", "()Ljava/lang/String;"⟩ : MethodName)) (W := 0) (kc := 0) (ks := 0) hownw (oW hw 59 rfl) (oW hw 60 rfl) (oW hw 62 rfl) (oW hw 61 rfl) (own_back (W := 0) (rm_gvalue l Z a0 hw [] bt au Tw.heap n0 ZZ tV) Kw.1 (oW hw 63 rfl) (oW hw 28 rfl) (by decide) (by decide)) (by decide) (b := bt) tE (g := (mkF m 92 #[.val (.int p1), .val (.int p2), .val (.int p3), .val (.int p4), .val (.int p5), .val (.int p6), .val (.int (Int32.ofNat n1)), .val (.int x1), .val (.int y1), .val (.int z1), .val (.int (Int32.ofNat n2)), .val (.int w1), .val (.ref au), .val (.ref av), .val (.ref bt), .unset, .unset, .unset] [(.ref bt)])) rfl (by rw [hml]; rfl) (argsL := []) (rest := []) (lenOf pd_22 rfl) rfl (by show 2 * 0 + _ ≤ _; exact Nat.le_of_eq rfl) (hb hby at_92) rfl e82 (by decide) (by decide) (fun vb Tb Lb Xb hQb => ?_)
  obtain ⟨rfl, Mb, eb⟩ := hQb
  have Nb := Fr.app Na Mb
  show oG p e below _ Tb (mkF m 95 #[.val (.int p1), .val (.int p2), .val (.int p3), .val (.int p4), .val (.int p5), .val (.int p6), .val (.int (Int32.ofNat n1)), .val (.int x1), .val (.int y1), .val (.int z1), .val (.int (Int32.ofNat n2)), .val (.int w1), .val (.ref au), .val (.ref av), .val (.ref bt), .unset, .unset, .unset] [(.ref au)])
  refine oS (fun t k => XS.astore Xb.here hx rfl (hb hby at_95) rfl rfl (l' := #[.val (.int p1), .val (.int p2), .val (.int p3), .val (.int p4), .val (.int p5), .val (.int p6), .val (.int (Int32.ofNat n1)), .val (.int x1), .val (.int y1), .val (.int z1), .val (.int (Int32.ofNat n2)), .val (.int w1), .val (.ref au), .val (.ref av), .val (.ref bt), .val (.ref au), .unset, .unset]) rfl k) ?_
  show oG p e below _ Tb (mkF m 97 #[.val (.int p1), .val (.int p2), .val (.int p3), .val (.int p4), .val (.int p5), .val (.int p6), .val (.int (Int32.ofNat n1)), .val (.int x1), .val (.int y1), .val (.int z1), .val (.int (Int32.ofNat n2)), .val (.int w1), .val (.ref au), .val (.ref av), .val (.ref bt), .val (.ref au), .unset, .unset] [])
  refine oS (fun t k => XS.aload Xb.here hx rfl (hb hby at_97) rfl rfl k) ?_
  show oG p e below _ Tb (mkF m 99 #[.val (.int p1), .val (.int p2), .val (.int p3), .val (.int p4), .val (.int p5), .val (.int p6), .val (.int (Int32.ofNat n1)), .val (.int x1), .val (.int y1), .val (.int z1), .val (.int (Int32.ofNat n2)), .val (.int w1), .val (.ref au), .val (.ref av), .val (.ref bt), .val (.ref au), .unset, .unset] [(.ref au)])
  refine oS (fun t k => XS.ifnullNo Xb.here hx rfl (hb hby at_99) rfl k) ?_
  show oG p e below _ Tb (mkF m 102 #[.val (.int p1), .val (.int p2), .val (.int p3), .val (.int p4), .val (.int p5), .val (.int p6), .val (.int (Int32.ofNat n1)), .val (.int x1), .val (.int y1), .val (.int z1), .val (.int (Int32.ofNat n2)), .val (.int w1), .val (.ref au), .val (.ref av), .val (.ref bt), .val (.ref au), .unset, .unset] [])
  refine oS (fun t k => XS.aload Xb.here hx rfl (hb hby at_102) rfl rfl k) ?_
  refine oS (fun t k => XS.aload Xb.here hx rfl (hb hby at_104) rfl rfl k) ?_
  show oG p e below _ Tb (mkF m 106 #[.val (.int p1), .val (.int p2), .val (.int p3), .val (.int p4), .val (.int p5), .val (.int p6), .val (.int (Int32.ofNat n1)), .val (.int x1), .val (.int y1), .val (.int z1), .val (.int (Int32.ofNat n2)), .val (.int w1), .val (.ref au), .val (.ref av), .val (.ref bt), .val (.ref au), .unset, .unset] [(.ref au), (.ref au)])
  obtain ⟨u1, kb1, LE1, LV1, LC1, LA1⟩ := id LU
  have hcd : StrChars.Road.CodA (own_cs n1 x1 y1 z1) 0 (Int32.ofNat (own_cs n1 x1 y1 z1).length) (((own_cs n1 x1 y1 z1).map (fun c : Int32 => c.toInt8.toInt32)).map Value.int) := StrChars.Road.codOf rfl (fun x hx => (hp1 x hx).2)
  refine own_callV Xb hx Kw.1 (y := (⟨"java/lang/String", "equals", "(Ljava/lang/Object;)Z"⟩ : MethodName)) (W := 0) (Q := (fun v h L => ((v = some (.int 1) ∧ (own_cs n1 x1 y1 z1) = (own_cs n1 x1 y1 z1)) ∨ (v = some (.int 0) ∧ ¬ (own_cs n1 x1 y1 z1) = (own_cs n1 x1 y1 z1))) ∧ L = [] ∧ h = Tw.heap)) (kc := 0) (ks := 0) hownw (oW hw 64 rfl) (oW hw 65 rfl) (oW hw 67 rfl) (oW hw 66 rfl) (StrChars.Road.eqW (W := 0) (s := s.setVm Tw.vm) Kw.1 heq (kI := 4) (oW hw 5 rfl) LE1 LV1 LC1 LA1 hcd (own_up hp1) hl1 LE1 LV1 LC1 LA1 hcd (own_up hp1) hl1 SC hCS (by decide) (by decide)) (by decide) (b := au) LE1 (g := (mkF m 106 #[.val (.int p1), .val (.int p2), .val (.int p3), .val (.int p4), .val (.int p5), .val (.int p6), .val (.int (Int32.ofNat n1)), .val (.int x1), .val (.int y1), .val (.int z1), .val (.int (Int32.ofNat n2)), .val (.int w1), .val (.ref au), .val (.ref av), .val (.ref bt), .val (.ref au), .unset, .unset] [(.ref au), (.ref au)])) rfl (by rw [hml]; rfl) (argsL := [(.ref au)]) (rest := []) (lenOf pd_2 rfl) rfl (by show 2 * 0 + _ ≤ _; exact Nat.le_of_eq rfl) (hb hby at_106) rfl eb (by decide) (by decide) (fun vc Tc Lc Xc hQc => ?_)
  obtain ⟨hv, rfl, ec⟩ := hQc
  obtain ⟨rfl, -⟩ | ⟨-, hv⟩ := hv
  rotate_left
  · exact absurd rfl hv
  have Nc := Fr.app Nb (Fr.nil n0)
  show oG p e below _ Tc (mkF m 109 #[.val (.int p1), .val (.int p2), .val (.int p3), .val (.int p4), .val (.int p5), .val (.int p6), .val (.int (Int32.ofNat n1)), .val (.int x1), .val (.int y1), .val (.int z1), .val (.int (Int32.ofNat n2)), .val (.int w1), .val (.ref au), .val (.ref av), .val (.ref bt), .val (.ref au), .unset, .unset] [(.int 1)])
  refine oS (fun t k => XS.ifYes Xc.here hx rfl (pc0 := 109) (pc' := 114) rfl (hb hby at_109) rfl ((if0 _ _).trans (feq (by decide : ¬ (1 : Int32) = 0)).2) (by decide) (by decide) k) ?_
  show oG p e below _ Tc (mkF m 114 #[.val (.int p1), .val (.int p2), .val (.int p3), .val (.int p4), .val (.int p5), .val (.int p6), .val (.int (Int32.ofNat n1)), .val (.int x1), .val (.int y1), .val (.int z1), .val (.int (Int32.ofNat n2)), .val (.int w1), .val (.ref au), .val (.ref av), .val (.ref bt), .val (.ref au), .unset, .unset] [])
  refine oS (fun t k => XS.aload Xc.here hx rfl (hb hby at_114) rfl rfl k) ?_
  show oG p e below _ Tc (mkF m 116 #[.val (.int p1), .val (.int p2), .val (.int p3), .val (.int p4), .val (.int p5), .val (.int p6), .val (.int (Int32.ofNat n1)), .val (.int x1), .val (.int y1), .val (.int z1), .val (.int (Int32.ofNat n2)), .val (.int w1), .val (.ref au), .val (.ref av), .val (.ref bt), .val (.ref au), .unset, .unset] [(.ref bt)])
  refine own_callV Xc hx Kw.1 (y := (⟨"com/example/rank3/rank3/graph/Term", "datatype", "()Ljava/lang/String;"⟩ : MethodName)) (W := 0) (kc := 0) (ks := 0) hownw (oW hw 69 rfl) (oW hw 70 rfl) (oW hw 72 rfl) (oW hw 71 rfl) (own_back (W := 0) (rm_gdatatype l Z a0 hw [] bt Tw.heap n0 ZZ tD) Kw.1 (oW hw 73 rfl) (oW hw 28 rfl) (by decide) (by decide)) (by decide) (b := bt) tE (g := (mkF m 116 #[.val (.int p1), .val (.int p2), .val (.int p3), .val (.int p4), .val (.int p5), .val (.int p6), .val (.int (Int32.ofNat n1)), .val (.int x1), .val (.int y1), .val (.int z1), .val (.int (Int32.ofNat n2)), .val (.int w1), .val (.ref au), .val (.ref av), .val (.ref bt), .val (.ref au), .unset, .unset] [(.ref bt)])) rfl (by rw [hml]; rfl) (argsL := []) (rest := []) (lenOf pd_22 rfl) rfl (by show 2 * 0 + _ ≤ _; exact Nat.le_of_eq rfl) (hb hby at_116) rfl ec (by decide) (by decide) (fun vd Td Ld Xd hQd => ?_)
  obtain ⟨rfl, Md, ed⟩ := hQd
  have Nd := Fr.app Nc Md
  show oG p e below _ Td (mkF m 119 #[.val (.int p1), .val (.int p2), .val (.int p3), .val (.int p4), .val (.int p5), .val (.int p6), .val (.int (Int32.ofNat n1)), .val (.int x1), .val (.int y1), .val (.int z1), .val (.int (Int32.ofNat n2)), .val (.int w1), .val (.ref au), .val (.ref av), .val (.ref bt), .val (.ref au), .unset, .unset] [.null])
  refine oS (fun t k => XS.ifnonnullNo Xd.here hx rfl (hb hby at_119) rfl k) ?_
  show oG p e below _ Td (mkF m 122 #[.val (.int p1), .val (.int p2), .val (.int p3), .val (.int p4), .val (.int p5), .val (.int p6), .val (.int (Int32.ofNat n1)), .val (.int x1), .val (.int y1), .val (.int z1), .val (.int (Int32.ofNat n2)), .val (.int w1), .val (.ref au), .val (.ref av), .val (.ref bt), .val (.ref au), .unset, .unset] [])
  refine oS (fun t k => XS.aload Xd.here hx rfl (hb hby at_122) rfl rfl k) ?_
  show oG p e below _ Td (mkF m 124 #[.val (.int p1), .val (.int p2), .val (.int p3), .val (.int p4), .val (.int p5), .val (.int p6), .val (.int (Int32.ofNat n1)), .val (.int x1), .val (.int y1), .val (.int z1), .val (.int (Int32.ofNat n2)), .val (.int w1), .val (.ref au), .val (.ref av), .val (.ref bt), .val (.ref au), .unset, .unset] [(.ref bt)])
  refine own_callV Xd hx Kw.1 (y := (⟨"com/example/rank3/rank3/graph/Term", "language", "()Ljava/lang/String;"⟩ : MethodName)) (W := 0) (kc := 0) (ks := 0) hownw (oW hw 74 rfl) (oW hw 75 rfl) (oW hw 77 rfl) (oW hw 76 rfl) (own_back (W := 0) (rm_glanguage l Z a0 hw [] bt Tw.heap n0 ZZ tG) Kw.1 (oW hw 78 rfl) (oW hw 28 rfl) (by decide) (by decide)) (by decide) (b := bt) tE (g := (mkF m 124 #[.val (.int p1), .val (.int p2), .val (.int p3), .val (.int p4), .val (.int p5), .val (.int p6), .val (.int (Int32.ofNat n1)), .val (.int x1), .val (.int y1), .val (.int z1), .val (.int (Int32.ofNat n2)), .val (.int w1), .val (.ref au), .val (.ref av), .val (.ref bt), .val (.ref au), .unset, .unset] [(.ref bt)])) rfl (by rw [hml]; rfl) (argsL := []) (rest := []) (lenOf pd_22 rfl) rfl (by show 2 * 0 + _ ≤ _; exact Nat.le_of_eq rfl) (hb hby at_124) rfl ed (by decide) (by decide) (fun vg Tg Lg Xg hQg => ?_)
  obtain ⟨rfl, Mg, eg⟩ := hQg
  have Ng := Fr.app Nd Mg
  show oG p e below _ Tg (mkF m 127 #[.val (.int p1), .val (.int p2), .val (.int p3), .val (.int p4), .val (.int p5), .val (.int p6), .val (.int (Int32.ofNat n1)), .val (.int x1), .val (.int y1), .val (.int z1), .val (.int (Int32.ofNat n2)), .val (.int w1), .val (.ref au), .val (.ref av), .val (.ref bt), .val (.ref au), .unset, .unset] [.null])
  refine oS (fun t k => XS.ifnullYes Xg.here hx rfl (pc0 := 127) (pc' := 132) rfl (hb hby at_127) rfl (by decide) (by decide) k) ?_
  show oG p e below _ Tg (mkF m 132 #[.val (.int p1), .val (.int p2), .val (.int p3), .val (.int p4), .val (.int p5), .val (.int p6), .val (.int (Int32.ofNat n1)), .val (.int x1), .val (.int y1), .val (.int z1), .val (.int (Int32.ofNat n2)), .val (.int w1), .val (.ref au), .val (.ref av), .val (.ref bt), .val (.ref au), .unset, .unset] [])
  refine oS (fun t k => XS.aload Xg.here hx rfl (hb hby at_132) rfl rfl k) ?_
  show oG p e below _ Tg (mkF m 134 #[.val (.int p1), .val (.int p2), .val (.int p3), .val (.int p4), .val (.int p5), .val (.int p6), .val (.int (Int32.ofNat n1)), .val (.int x1), .val (.int y1), .val (.int z1), .val (.int (Int32.ofNat n2)), .val (.int w1), .val (.ref au), .val (.ref av), .val (.ref bt), .val (.ref au), .unset, .unset] [(.ref bt)])
  refine own_callVH Xg hx Kw (y := (⟨"com/example/rank3/rank3/graph/Term", "id", "()Ljava/lang/String;"⟩ : MethodName)) (W := 0) (kc := 7) (ks := 60) hownw (oW hw 79 rfl) (oW hw 80 rfl) (oW hw 82 rfl) (oW hw 81 rfl) (own_backH (W := 0) (rm_id l Z a0 hw [] bt k1 au CS n1 x1 y1 z1 Tw.heap n0 ZZ hE wS hn1 tK tV LU hp1 SB SC hCS) Kw (fun _ _ => trivial) (oW hw 83 rfl) (oW hw 28 rfl) (by decide) (by decide)) (by decide) (b := bt) tE (g := (mkF m 134 #[.val (.int p1), .val (.int p2), .val (.int p3), .val (.int p4), .val (.int p5), .val (.int p6), .val (.int (Int32.ofNat n1)), .val (.int x1), .val (.int y1), .val (.int z1), .val (.int (Int32.ofNat n2)), .val (.int w1), .val (.ref au), .val (.ref av), .val (.ref bt), .val (.ref au), .unset, .unset] [(.ref bt)])) rfl (by rw [hml]; rfl) (argsL := []) (rest := []) (lenOf pd_22 rfl) rfl (by show 2 * 0 + _ ≤ _; exact Nat.le_of_eq rfl) (hb hby at_134) rfl eg (by decide) (by decide) (fun vi Ti Li Xi hQi Ki howni Ri => ?_)
  obtain ⟨ai, rfl, Mi, KPi, LI⟩ := hQi
  have Ni := Fr.app Ng Mi
  have ZZ : n0 ≤ Ti.heap.size := Nat.le_trans ZZ KPi.1
  have OO := OO.keep KPi all0
  have SC := own_staK0 SC KPi
  have SF := own_staK0 SF KPi
  have SB := own_staK0 SB KPi
  have SI := own_staK0 SI KPi
  have LU := LU.keep0 KPi
  have LV := LV.keep0 KPi
  obtain ⟨tE, tK, tV, tD, tG⟩ : Exa Z Ti.heap bt "com/example/rank3/rank3/graph/Term" ∧ Fld Z Ti.heap bt "com/example/rank3/rank3/graph/Term" "kind" "Lcom/example/rank3/rank3/graph/Term$Kind;" (.ref k1) ∧ Fld Z Ti.heap bt "com/example/rank3/rank3/graph/Term" "value" "Ljava/lang/String;" (.ref au) ∧ Fld Z Ti.heap bt "com/example/rank3/rank3/graph/Term" "datatype" "Ljava/lang/String;" .null ∧ Fld Z Ti.heap bt "com/example/rank3/rank3/graph/Term" "language" "Ljava/lang/String;" .null := ⟨tE.keep KPi, tK.keep KPi nin0, tV.keep KPi nin0, tD.keep KPi nin0, tG.keep KPi nin0⟩
  show oG p e below _ Ti (mkF m 137 #[.val (.int p1), .val (.int p2), .val (.int p3), .val (.int p4), .val (.int p5), .val (.int p6), .val (.int (Int32.ofNat n1)), .val (.int x1), .val (.int y1), .val (.int z1), .val (.int (Int32.ofNat n2)), .val (.int w1), .val (.ref au), .val (.ref av), .val (.ref bt), .val (.ref au), .unset, .unset] [(.ref ai)])
  refine oS (fun t k => XS.astore Xi.here hx rfl (hb hby at_137) rfl rfl (l' := #[.val (.int p1), .val (.int p2), .val (.int p3), .val (.int p4), .val (.int p5), .val (.int p6), .val (.int (Int32.ofNat n1)), .val (.int x1), .val (.int y1), .val (.int z1), .val (.int (Int32.ofNat n2)), .val (.int w1), .val (.ref au), .val (.ref av), .val (.ref bt), .val (.ref au), .val (.ref ai), .unset]) rfl k) ?_
  show oG p e below _ Ti (mkF m 139 #[.val (.int p1), .val (.int p2), .val (.int p3), .val (.int p4), .val (.int p5), .val (.int p6), .val (.int (Int32.ofNat n1)), .val (.int x1), .val (.int y1), .val (.int z1), .val (.int (Int32.ofNat n2)), .val (.int w1), .val (.ref au), .val (.ref av), .val (.ref bt), .val (.ref au), .val (.ref ai), .unset] [])
  refine oS (fun t k => XS.aload Xi.here hx rfl (hb hby at_139) rfl rfl k) ?_
  show oG p e below _ Ti (mkF m 141 #[.val (.int p1), .val (.int p2), .val (.int p3), .val (.int p4), .val (.int p5), .val (.int p6), .val (.int (Int32.ofNat n1)), .val (.int x1), .val (.int y1), .val (.int z1), .val (.int (Int32.ofNat n2)), .val (.int w1), .val (.ref au), .val (.ref av), .val (.ref bt), .val (.ref au), .val (.ref ai), .unset] [(.ref ai)])
  refine oS (fun t k => XS.ifnullNo Xi.here hx rfl (hb hby at_141) rfl k) ?_
  show oG p e below _ Ti (mkF m 144 #[.val (.int p1), .val (.int p2), .val (.int p3), .val (.int p4), .val (.int p5), .val (.int p6), .val (.int (Int32.ofNat n1)), .val (.int x1), .val (.int y1), .val (.int z1), .val (.int (Int32.ofNat n2)), .val (.int w1), .val (.ref au), .val (.ref av), .val (.ref bt), .val (.ref au), .val (.ref ai), .unset] [])
  refine oS (fun t k => XS.aload Xi.here hx rfl (hb hby at_144) rfl rfl k) ?_
  show oG p e below _ Ti (mkF m 146 #[.val (.int p1), .val (.int p2), .val (.int p3), .val (.int p4), .val (.int p5), .val (.int p6), .val (.int (Int32.ofNat n1)), .val (.int x1), .val (.int y1), .val (.int z1), .val (.int (Int32.ofNat n2)), .val (.int w1), .val (.ref au), .val (.ref av), .val (.ref bt), .val (.ref au), .val (.ref ai), .unset] [(.ref ai)])
  have tail : ∀ (TT : State) (LT : List Loc), Stand p l e room_1 (s.setVm Ti.vm) m #[(.int p1), (.int p2), (.int p3), (.int p4), (.int p5), (.int p6)] below meth c TT LT 22 120 → TT.heap = Ti.heap → Fr n0 LT → ∀ r : Int32, r = (if (own_cs n1 x1 y1 z1) = (own_cs n2 x1 y1 w1) then 1 else 0) → oG p e below (own_PH Z consts_1 s (fun v h L => v = some (.int 1) ∧ Fr n0 L) room_1.cells room_1.slots) TT (mkF m 266 #[.val (.int p1), .val (.int p2), .val (.int p3), .val (.int p4), .val (.int p5), .val (.int p6), .val (.int (Int32.ofNat n1)), .val (.int x1), .val (.int y1), .val (.int z1), .val (.int (Int32.ofNat n2)), .val (.int w1), .val (.ref au), .val (.ref av), .val (.ref bt), .val (.ref au), .val (.ref ai), .val (.int r)] []) := by
    intro TT LT XT eT NT r hr
    show oG p e below _ TT (mkF m 266 #[.val (.int p1), .val (.int p2), .val (.int p3), .val (.int p4), .val (.int p5), .val (.int p6), .val (.int (Int32.ofNat n1)), .val (.int x1), .val (.int y1), .val (.int z1), .val (.int (Int32.ofNat n2)), .val (.int w1), .val (.ref au), .val (.ref av), .val (.ref bt), .val (.ref au), .val (.ref ai), .val (.int r)] [])
    refine oS (fun t k => XS.aload XT.here hx rfl (hb hby at_266) rfl rfl k) ?_
    refine oS (fun t k => XS.aload XT.here hx rfl (hb hby at_268) rfl rfl k) ?_
    show oG p e below _ TT (mkF m 270 #[.val (.int p1), .val (.int p2), .val (.int p3), .val (.int p4), .val (.int p5), .val (.int p6), .val (.int (Int32.ofNat n1)), .val (.int x1), .val (.int y1), .val (.int z1), .val (.int (Int32.ofNat n2)), .val (.int w1), .val (.ref au), .val (.ref av), .val (.ref bt), .val (.ref au), .val (.ref ai), .val (.int r)] [(.ref av), (.ref bt)])
    refine own_callSH XT hx Ki (y := (⟨"com/example/rank3/rank3/graph/Term", "blankNode", "(Ljava/lang/String;)Lcom/example/rank3/rank3/graph/Term;"⟩ : MethodName)) (W := 1) (kc := 3) (ks := 28) howni (oW hw 26 rfl) (oW hw 27 rfl) (oW hw 28 rfl) (oW hw 29 rfl) (own_backH (W := 1) (rm_blankNode l Z a0 hw [] av k1 Ti.heap n0 ZZ hE wS SB (own_Lat.exa LV)) Ki (fun _ _ => trivial) (oW hw 29 rfl) (oW hw 28 rfl) (by decide) (by decide)) (by decide) (g := (mkF m 270 #[.val (.int p1), .val (.int p2), .val (.int p3), .val (.int p4), .val (.int p5), .val (.int p6), .val (.int (Int32.ofNat n1)), .val (.int x1), .val (.int y1), .val (.int z1), .val (.int (Int32.ofNat n2)), .val (.int w1), .val (.ref au), .val (.ref av), .val (.ref bt), .val (.ref au), .val (.ref ai), .val (.int r)] [(.ref av), (.ref bt)])) rfl (by rw [hml]; rfl) (argsL := [(.ref av)]) (rest := [(.ref bt)]) (lenOf pd_24 rfl) rfl (by show 2 * 0 + _ ≤ _; exact Nat.le_of_eq rfl) (hb hby at_270) rfl eT (by decide) (by decide) (fun vy Ty Ly Xy hQy Ky howny Ry => ?_)
    obtain ⟨b2, rfl, My, KPy, -, -, rE, rK, rV, rD, rG⟩ := hQy
    have Ny := Fr.app NT My
    have ZZ : n0 ≤ Ty.heap.size := Nat.le_trans ZZ KPy.1
    have OO := OO.keep KPy all0
    have SC := own_staK0 SC KPy
    have SF := own_staK0 SF KPy
    have SB := own_staK0 SB KPy
    have SI := own_staK0 SI KPy
    have LU := LU.keep0 KPy
    have LV := LV.keep0 KPy
    obtain ⟨tE, tK, tV, tD, tG⟩ : Exa Z Ty.heap bt "com/example/rank3/rank3/graph/Term" ∧ Fld Z Ty.heap bt "com/example/rank3/rank3/graph/Term" "kind" "Lcom/example/rank3/rank3/graph/Term$Kind;" (.ref k1) ∧ Fld Z Ty.heap bt "com/example/rank3/rank3/graph/Term" "value" "Ljava/lang/String;" (.ref au) ∧ Fld Z Ty.heap bt "com/example/rank3/rank3/graph/Term" "datatype" "Ljava/lang/String;" .null ∧ Fld Z Ty.heap bt "com/example/rank3/rank3/graph/Term" "language" "Ljava/lang/String;" .null := ⟨tE.keep KPy, tK.keep KPy nin0, tV.keep KPy nin0, tD.keep KPy nin0, tG.keep KPy nin0⟩
    show oG p e below _ Ty (mkF m 273 #[.val (.int p1), .val (.int p2), .val (.int p3), .val (.int p4), .val (.int p5), .val (.int p6), .val (.int (Int32.ofNat n1)), .val (.int x1), .val (.int y1), .val (.int z1), .val (.int (Int32.ofNat n2)), .val (.int w1), .val (.ref au), .val (.ref av), .val (.ref bt), .val (.ref au), .val (.ref ai), .val (.int r)] [(.ref b2), (.ref bt)])
    refine own_callV Xy hx Ky.1 (y := (⟨"com/example/rank3/rank3/graph/Term", "equals", "(Ljava/lang/Object;)Z"⟩ : MethodName)) (W := 0) (kc := 0) (ks := 0) howny (oW hw 219 rfl) (oW hw 220 rfl) (oW hw 222 rfl) (oW hw 221 rfl) (own_back (W := 0) (rm_teS l Z a0 hw [] bt b2 k1 au av (own_cs n1 x1 y1 z1) (own_cs n2 x1 y1 w1) CS Ty.heap n0 ZZ tE rE tK rK tV rV tD rD tG rG LU LV hp1 hp2 hl1 hl2 SC hCS) Ky.1 (oW hw 223 rfl) (oW hw 28 rfl) (by decide) (by decide)) (by decide) (b := bt) tE (g := (mkF m 273 #[.val (.int p1), .val (.int p2), .val (.int p3), .val (.int p4), .val (.int p5), .val (.int p6), .val (.int (Int32.ofNat n1)), .val (.int x1), .val (.int y1), .val (.int z1), .val (.int (Int32.ofNat n2)), .val (.int w1), .val (.ref au), .val (.ref av), .val (.ref bt), .val (.ref au), .val (.ref ai), .val (.int r)] [(.ref b2), (.ref bt)])) rfl (by rw [hml]; rfl) (argsL := [(.ref b2)]) (rest := []) (lenOf pd_2 rfl) rfl (by show 2 * 0 + _ ≤ _; exact Nat.le_of_eq rfl) (hb hby at_273) rfl rfl (by decide) (by decide) (fun vl Tl Ll Xl hQl => ?_)
    obtain ⟨rfl, Ml, el⟩ := hQl
    have Nl := Fr.app Ny Ml
    rw [← hr]
    show oG p e below _ Tl (mkF m 276 #[.val (.int p1), .val (.int p2), .val (.int p3), .val (.int p4), .val (.int p5), .val (.int p6), .val (.int (Int32.ofNat n1)), .val (.int x1), .val (.int y1), .val (.int z1), .val (.int (Int32.ofNat n2)), .val (.int w1), .val (.ref au), .val (.ref av), .val (.ref bt), .val (.ref au), .val (.ref ai), .val (.int r)] [(.int r)])
    refine oS (fun t k => XS.iload Xl.here hx rfl (hb hby at_276) rfl  k) ?_
    show oG p e below _ Tl (mkF m 278 #[.val (.int p1), .val (.int p2), .val (.int p3), .val (.int p4), .val (.int p5), .val (.int p6), .val (.int (Int32.ofNat n1)), .val (.int x1), .val (.int y1), .val (.int z1), .val (.int (Int32.ofNat n2)), .val (.int w1), .val (.ref au), .val (.ref av), .val (.ref bt), .val (.ref au), .val (.ref ai), .val (.int r)] [(.int r), (.int r)])
    refine oS (fun t k => XS.icmpYes Xl.here hx rfl (pc0 := 278) (pc' := 283) rfl (hb hby at_278) rfl (teq (rfl : r = r)).1 (by decide) (by decide) k) ?_
    show oG p e below _ Tl (mkF m 283 #[.val (.int p1), .val (.int p2), .val (.int p3), .val (.int p4), .val (.int p5), .val (.int p6), .val (.int (Int32.ofNat n1)), .val (.int x1), .val (.int y1), .val (.int z1), .val (.int (Int32.ofNat n2)), .val (.int w1), .val (.ref au), .val (.ref av), .val (.ref bt), .val (.ref au), .val (.ref ai), .val (.int r)] [])
    refine oS (fun t k => XS.aload Xl.here hx rfl (hb hby at_283) rfl rfl k) ?_
    refine oS (fun t k => XS.aload Xl.here hx rfl (hb hby at_285) rfl rfl k) ?_
    show oG p e below _ Tl (mkF m 287 #[.val (.int p1), .val (.int p2), .val (.int p3), .val (.int p4), .val (.int p5), .val (.int p6), .val (.int (Int32.ofNat n1)), .val (.int x1), .val (.int y1), .val (.int z1), .val (.int (Int32.ofNat n2)), .val (.int w1), .val (.ref au), .val (.ref av), .val (.ref bt), .val (.ref au), .val (.ref ai), .val (.int r)] [(.ref au), (.ref bt)])
    refine own_callSH Xl hx Ky (y := (⟨"com/example/rank3/rank3/graph/Term", "iri", "(Ljava/lang/String;)Lcom/example/rank3/rank3/graph/Term;"⟩ : MethodName)) (W := 1) (kc := 3) (ks := 28) howny (oW hw 233 rfl) (oW hw 234 rfl) (oW hw 28 rfl) (oW hw 235 rfl) (own_backH (W := 1) (rm_iri l Z a0 hw [] au k2 Ty.heap n0 ZZ hE wS SI (own_Lat.exa LU)) Ky (fun _ _ => trivial) (oW hw 235 rfl) (oW hw 28 rfl) (by decide) (by decide)) (by decide) (g := (mkF m 287 #[.val (.int p1), .val (.int p2), .val (.int p3), .val (.int p4), .val (.int p5), .val (.int p6), .val (.int (Int32.ofNat n1)), .val (.int x1), .val (.int y1), .val (.int z1), .val (.int (Int32.ofNat n2)), .val (.int w1), .val (.ref au), .val (.ref av), .val (.ref bt), .val (.ref au), .val (.ref ai), .val (.int r)] [(.ref au), (.ref bt)])) rfl (by rw [hml]; rfl) (argsL := [(.ref au)]) (rest := [(.ref bt)]) (lenOf pd_24 rfl) rfl (by show 2 * 0 + _ ≤ _; exact Nat.le_of_eq rfl) (hb hby at_287) rfl el (by decide) (by decide) (fun vo To Lo Xo hQo Ko howno Ro => ?_)
    obtain ⟨b3, rfl, Mo, KPo, -, -, oE, oK, -, -, -⟩ := hQo
    have No := Fr.app Nl Mo
    have ZZ : n0 ≤ To.heap.size := Nat.le_trans ZZ KPo.1
    have OO := OO.keep KPo all0
    obtain ⟨tE, tK, tV, tD, tG⟩ : Exa Z To.heap bt "com/example/rank3/rank3/graph/Term" ∧ Fld Z To.heap bt "com/example/rank3/rank3/graph/Term" "kind" "Lcom/example/rank3/rank3/graph/Term$Kind;" (.ref k1) ∧ Fld Z To.heap bt "com/example/rank3/rank3/graph/Term" "value" "Ljava/lang/String;" (.ref au) ∧ Fld Z To.heap bt "com/example/rank3/rank3/graph/Term" "datatype" "Ljava/lang/String;" .null ∧ Fld Z To.heap bt "com/example/rank3/rank3/graph/Term" "language" "Ljava/lang/String;" .null := ⟨tE.keep KPo, tK.keep KPo nin0, tV.keep KPo nin0, tD.keep KPo nin0, tG.keep KPo nin0⟩
    show oG p e below _ To (mkF m 290 #[.val (.int p1), .val (.int p2), .val (.int p3), .val (.int p4), .val (.int p5), .val (.int p6), .val (.int (Int32.ofNat n1)), .val (.int x1), .val (.int y1), .val (.int z1), .val (.int (Int32.ofNat n2)), .val (.int w1), .val (.ref au), .val (.ref av), .val (.ref bt), .val (.ref au), .val (.ref ai), .val (.int r)] [(.ref b3), (.ref bt)])
    refine own_callV Xo hx Ko.1 (y := (⟨"com/example/rank3/rank3/graph/Term", "equals", "(Ljava/lang/Object;)Z"⟩ : MethodName)) (W := 0) (kc := 0) (ks := 0) howno (oW hw 219 rfl) (oW hw 220 rfl) (oW hw 222 rfl) (oW hw 221 rfl) (own_back (W := 0) (rm_teD l Z a0 hw [] bt b3 k1 k2 To.heap n0 ZZ tE oE tK oK hk) Ko.1 (oW hw 223 rfl) (oW hw 28 rfl) (by decide) (by decide)) (by decide) (b := bt) tE (g := (mkF m 290 #[.val (.int p1), .val (.int p2), .val (.int p3), .val (.int p4), .val (.int p5), .val (.int p6), .val (.int (Int32.ofNat n1)), .val (.int x1), .val (.int y1), .val (.int z1), .val (.int (Int32.ofNat n2)), .val (.int w1), .val (.ref au), .val (.ref av), .val (.ref bt), .val (.ref au), .val (.ref ai), .val (.int r)] [(.ref b3), (.ref bt)])) rfl (by rw [hml]; rfl) (argsL := [(.ref b3)]) (rest := []) (lenOf pd_2 rfl) rfl (by show 2 * 0 + _ ≤ _; exact Nat.le_of_eq rfl) (hb hby at_290) rfl rfl (by decide) (by decide) (fun vq Tq Lq Xq hQq => ?_)
    obtain ⟨rfl, Mq, eq⟩ := hQq
    have Nq := Fr.app No Mq
    show oG p e below _ Tq (mkF m 293 #[.val (.int p1), .val (.int p2), .val (.int p3), .val (.int p4), .val (.int p5), .val (.int p6), .val (.int (Int32.ofNat n1)), .val (.int x1), .val (.int y1), .val (.int z1), .val (.int (Int32.ofNat n2)), .val (.int w1), .val (.ref au), .val (.ref av), .val (.ref bt), .val (.ref au), .val (.ref ai), .val (.int r)] [(.int 0)])
    refine oS (fun t k => XS.ifYes Xq.here hx rfl (pc0 := 293) (pc' := 298) rfl (hb hby at_293) rfl ((if0 _ _).trans (teq (rfl : (0 : Int32) = 0)).1) (by decide) (by decide) k) ?_
    show oG p e below _ Tq (mkF m 298 #[.val (.int p1), .val (.int p2), .val (.int p3), .val (.int p4), .val (.int p5), .val (.int p6), .val (.int (Int32.ofNat n1)), .val (.int x1), .val (.int y1), .val (.int z1), .val (.int (Int32.ofNat n2)), .val (.int w1), .val (.ref au), .val (.ref av), .val (.ref bt), .val (.ref au), .val (.ref ai), .val (.int r)] [])
    refine oS (fun t k => XS.iconst Xq.here hx rfl (hb hby at_298) k) ?_
    show oG p e below _ Tq (mkF m 299 #[.val (.int p1), .val (.int p2), .val (.int p3), .val (.int p4), .val (.int p5), .val (.int p6), .val (.int (Int32.ofNat n1)), .val (.int x1), .val (.int y1), .val (.int z1), .val (.int (Int32.ofNat n2)), .val (.int w1), .val (.ref au), .val (.ref av), .val (.ref bt), .val (.ref au), .val (.ref ai), .val (.int r)] [(.int 1)])
    refine own_retHN (t := .boolean) Xq Ko eq hx hlk hret (by simp) (hb hby at_299) ?_ (by decide) (by decide)
    exact ⟨rfl, Nq⟩
  obtain rfl | rfl | rfl | rfl : n1 = 0 ∨ n1 = 1 ∨ n1 = 2 ∨ n1 = 3 := by omega
  · show oG p e below _ Ti (mkF m 146 #[.val (.int p1), .val (.int p2), .val (.int p3), .val (.int p4), .val (.int p5), .val (.int p6), .val (.int 0), .val (.int x1), .val (.int y1), .val (.int z1), .val (.int (Int32.ofNat n2)), .val (.int w1), .val (.ref au), .val (.ref av), .val (.ref bt), .val (.ref au), .val (.ref ai), .unset] [(.ref ai)])
    have hpi : ∀ c ∈ ((95 : Int32) :: (58 : Int32) :: ([] : List Int32)), ¬ c < 0 ∧ ¬ (255 : Int32) < c := own_hp2 hp1
    obtain ⟨ui, kbi, LEi, LVi, LCi, LAi⟩ : own_Lat Z Ti.heap ai ((95 : Int32) :: (58 : Int32) :: ([] : List Int32)) := LI
    have hci : StrChars.Road.CodA ((95 : Int32) :: (58 : Int32) :: ([] : List Int32)) 0 (Int32.ofNat ((95 : Int32) :: (58 : Int32) :: ([] : List Int32)).length) ((((95 : Int32) :: (58 : Int32) :: ([] : List Int32)).map (fun c : Int32 => c.toInt8.toInt32)).map Value.int) := StrChars.Road.codOf rfl (fun x hx => (hpi x hx).2)
    refine own_callV Xi hx Ki.1 (y := (⟨"java/lang/String", "length", "()I"⟩ : MethodName)) (W := 0) (Q := (fun v h L => v = some (.int (Int32.ofNat ((95 : Int32) :: (58 : Int32) :: ([] : List Int32)).length)) ∧ L = [] ∧ h = Ti.heap)) (kc := 0) (ks := 0) howni (oW hw 196 rfl) (oW hw 114 rfl) (oW hw 116 rfl) (oW hw 115 rfl) (StrChars.Road.lenW (W := 0) (s := s.setVm Ti.vm) Ki.1 hln (kI := 4) (oW hw 5 rfl) LEi LVi LCi LAi hci (own_up hpi) SC hCS (Nat.le_of_ble_eq_true rfl) (by decide) (by decide)) (by decide) (b := ai) LEi (g := (mkF m 146 #[.val (.int p1), .val (.int p2), .val (.int p3), .val (.int p4), .val (.int p5), .val (.int p6), .val (.int 0), .val (.int x1), .val (.int y1), .val (.int z1), .val (.int (Int32.ofNat n2)), .val (.int w1), .val (.ref au), .val (.ref av), .val (.ref bt), .val (.ref au), .val (.ref ai), .unset] [(.ref ai)])) rfl (by rw [hml]; rfl) (argsL := []) (rest := []) (lenOf pd_8 rfl) rfl (by show 2 * 0 + _ ≤ _; exact Nat.le_of_eq rfl) (hb hby at_146) rfl rfl (by decide) (by decide) (fun vj Tj Lj Xj hQj => ?_)
    obtain ⟨rfl, rfl, ej⟩ := hQj
    have Nj := Fr.app Ni (Fr.nil n0)
    show oG p e below _ Tj (mkF m 149 #[.val (.int p1), .val (.int p2), .val (.int p3), .val (.int p4), .val (.int p5), .val (.int p6), .val (.int 0), .val (.int x1), .val (.int y1), .val (.int z1), .val (.int (Int32.ofNat n2)), .val (.int w1), .val (.ref au), .val (.ref av), .val (.ref bt), .val (.ref au), .val (.ref ai), .unset] [(.int 2)])
    refine oS (fun t k => XS.iload Xj.here hx rfl (hb hby at_149) rfl  k) ?_
    refine oS (fun t k => XS.iconst Xj.here hx rfl (hb hby at_151) k) ?_
    refine oS (fun t k => XS.iadd Xj.here hx rfl (hb hby at_152) rfl k) ?_
    show oG p e below _ Tj (mkF m 153 #[.val (.int p1), .val (.int p2), .val (.int p3), .val (.int p4), .val (.int p5), .val (.int p6), .val (.int 0), .val (.int x1), .val (.int y1), .val (.int z1), .val (.int (Int32.ofNat n2)), .val (.int w1), .val (.ref au), .val (.ref av), .val (.ref bt), .val (.ref au), .val (.ref ai), .unset] [(.int ((0 : Int32) + (2 : Int32))), (.int 2)])
    refine oS (fun t k => XS.icmpYes Xj.here hx rfl (pc0 := 153) (pc' := 158) rfl (hb hby at_153) rfl (teq (by decide : (2 : Int32) = (0 : Int32) + 2)).1 (by decide) (by decide) k) ?_
    show oG p e below _ Tj (mkF m 158 #[.val (.int p1), .val (.int p2), .val (.int p3), .val (.int p4), .val (.int p5), .val (.int p6), .val (.int 0), .val (.int x1), .val (.int y1), .val (.int z1), .val (.int (Int32.ofNat n2)), .val (.int w1), .val (.ref au), .val (.ref av), .val (.ref bt), .val (.ref au), .val (.ref ai), .unset] [])
    refine oS (fun t k => XS.aload Xj.here hx rfl (hb hby at_158) rfl rfl k) ?_
    refine oS (fun t k => XS.iconst Xj.here hx rfl (hb hby at_160) k) ?_
    show oG p e below _ Tj (mkF m 161 #[.val (.int p1), .val (.int p2), .val (.int p3), .val (.int p4), .val (.int p5), .val (.int p6), .val (.int 0), .val (.int x1), .val (.int y1), .val (.int z1), .val (.int (Int32.ofNat n2)), .val (.int w1), .val (.ref au), .val (.ref av), .val (.ref bt), .val (.ref au), .val (.ref ai), .unset] [(.int 0), (.ref ai)])
    refine own_callV Xj hx Ki.1 (y := (⟨"java/lang/String", "charAt", "(I)C"⟩ : MethodName)) (W := 0) (Q := (fun v h L => v = some (.int (((95 : Int32) :: (58 : Int32) :: ([] : List Int32)).getD 0 0)) ∧ L = [] ∧ h = Ti.heap)) (kc := 0) (ks := 0) howni (oW hw 197 rfl) (oW hw 198 rfl) (oW hw 200 rfl) (oW hw 199 rfl) (StrChars.Road.chN (W := 0) (s := s.setVm Ti.vm) Ki.1 hch (kI := 4) (oW hw 5 rfl) LEi LVi LCi LAi hci (own_up hpi) SC hCS SF rFM (Nat.le_of_ble_eq_true rfl) (i := 0) (Nat.le_of_ble_eq_true rfl) (j := 0) rfl (by decide) (by decide)) (by decide) (b := ai) LEi (g := (mkF m 161 #[.val (.int p1), .val (.int p2), .val (.int p3), .val (.int p4), .val (.int p5), .val (.int p6), .val (.int 0), .val (.int x1), .val (.int y1), .val (.int z1), .val (.int (Int32.ofNat n2)), .val (.int w1), .val (.ref au), .val (.ref av), .val (.ref bt), .val (.ref au), .val (.ref ai), .unset] [(.int 0), (.ref ai)])) rfl (by rw [hml]; rfl) (argsL := [(.int 0)]) (rest := []) (lenOf pd_26 rfl) rfl (by show 2 * 0 + _ ≤ _; exact Nat.le_of_eq rfl) (hb hby at_161) rfl ej (by decide) (by decide) (fun vh0 Th0 Lh0 Xh0 hQh0 => ?_)
    obtain ⟨rfl, rfl, eh0⟩ := hQh0
    have Nh0 := Fr.app Nj (Fr.nil n0)
    show oG p e below _ Th0 (mkF m 164 #[.val (.int p1), .val (.int p2), .val (.int p3), .val (.int p4), .val (.int p5), .val (.int p6), .val (.int 0), .val (.int x1), .val (.int y1), .val (.int z1), .val (.int (Int32.ofNat n2)), .val (.int w1), .val (.ref au), .val (.ref av), .val (.ref bt), .val (.ref au), .val (.ref ai), .unset] [(.int 95)])
    refine oS (fun t k => XS.bipush Xh0.here hx rfl (hb hby at_164) k) ?_
    show oG p e below _ Th0 (mkF m 166 #[.val (.int p1), .val (.int p2), .val (.int p3), .val (.int p4), .val (.int p5), .val (.int p6), .val (.int 0), .val (.int x1), .val (.int y1), .val (.int z1), .val (.int (Int32.ofNat n2)), .val (.int w1), .val (.ref au), .val (.ref av), .val (.ref bt), .val (.ref au), .val (.ref ai), .unset] [(.int 95), (.int 95)])
    refine oS (fun t k => XS.icmpNo Xh0.here hx rfl (hb hby at_166) rfl (teq (rfl : (95 : Int32) = 95)).2 k) ?_
    show oG p e below _ Th0 (mkF m 169 #[.val (.int p1), .val (.int p2), .val (.int p3), .val (.int p4), .val (.int p5), .val (.int p6), .val (.int 0), .val (.int x1), .val (.int y1), .val (.int z1), .val (.int (Int32.ofNat n2)), .val (.int w1), .val (.ref au), .val (.ref av), .val (.ref bt), .val (.ref au), .val (.ref ai), .unset] [])
    refine oS (fun t k => XS.aload Xh0.here hx rfl (hb hby at_169) rfl rfl k) ?_
    refine oS (fun t k => XS.iconst Xh0.here hx rfl (hb hby at_171) k) ?_
    show oG p e below _ Th0 (mkF m 172 #[.val (.int p1), .val (.int p2), .val (.int p3), .val (.int p4), .val (.int p5), .val (.int p6), .val (.int 0), .val (.int x1), .val (.int y1), .val (.int z1), .val (.int (Int32.ofNat n2)), .val (.int w1), .val (.ref au), .val (.ref av), .val (.ref bt), .val (.ref au), .val (.ref ai), .unset] [(.int 1), (.ref ai)])
    refine own_callV Xh0 hx Ki.1 (y := (⟨"java/lang/String", "charAt", "(I)C"⟩ : MethodName)) (W := 0) (Q := (fun v h L => v = some (.int (((95 : Int32) :: (58 : Int32) :: ([] : List Int32)).getD 1 0)) ∧ L = [] ∧ h = Ti.heap)) (kc := 0) (ks := 0) howni (oW hw 197 rfl) (oW hw 198 rfl) (oW hw 200 rfl) (oW hw 199 rfl) (StrChars.Road.chN (W := 0) (s := s.setVm Ti.vm) Ki.1 hch (kI := 4) (oW hw 5 rfl) LEi LVi LCi LAi hci (own_up hpi) SC hCS SF rFM (Nat.le_of_ble_eq_true rfl) (i := 1) (Nat.le_of_ble_eq_true rfl) (j := 1) rfl (by decide) (by decide)) (by decide) (b := ai) LEi (g := (mkF m 172 #[.val (.int p1), .val (.int p2), .val (.int p3), .val (.int p4), .val (.int p5), .val (.int p6), .val (.int 0), .val (.int x1), .val (.int y1), .val (.int z1), .val (.int (Int32.ofNat n2)), .val (.int w1), .val (.ref au), .val (.ref av), .val (.ref bt), .val (.ref au), .val (.ref ai), .unset] [(.int 1), (.ref ai)])) rfl (by rw [hml]; rfl) (argsL := [(.int 1)]) (rest := []) (lenOf pd_26 rfl) rfl (by show 2 * 0 + _ ≤ _; exact Nat.le_of_eq rfl) (hb hby at_172) rfl eh0 (by decide) (by decide) (fun vh1 Th1 Lh1 Xh1 hQh1 => ?_)
    obtain ⟨rfl, rfl, eh1⟩ := hQh1
    have Nh1 := Fr.app Nh0 (Fr.nil n0)
    show oG p e below _ Th1 (mkF m 175 #[.val (.int p1), .val (.int p2), .val (.int p3), .val (.int p4), .val (.int p5), .val (.int p6), .val (.int 0), .val (.int x1), .val (.int y1), .val (.int z1), .val (.int (Int32.ofNat n2)), .val (.int w1), .val (.ref au), .val (.ref av), .val (.ref bt), .val (.ref au), .val (.ref ai), .unset] [(.int 58)])
    refine oS (fun t k => XS.bipush Xh1.here hx rfl (hb hby at_175) k) ?_
    show oG p e below _ Th1 (mkF m 177 #[.val (.int p1), .val (.int p2), .val (.int p3), .val (.int p4), .val (.int p5), .val (.int p6), .val (.int 0), .val (.int x1), .val (.int y1), .val (.int z1), .val (.int (Int32.ofNat n2)), .val (.int w1), .val (.ref au), .val (.ref av), .val (.ref bt), .val (.ref au), .val (.ref ai), .unset] [(.int 58), (.int 58)])
    refine oS (fun t k => XS.icmpYes Xh1.here hx rfl (pc0 := 177) (pc' := 182) rfl (hb hby at_177) rfl (teq (rfl : (58 : Int32) = 58)).1 (by decide) (by decide) k) ?_
    show oG p e below _ Th1 (mkF m 182 #[.val (.int p1), .val (.int p2), .val (.int p3), .val (.int p4), .val (.int p5), .val (.int p6), .val (.int 0), .val (.int x1), .val (.int y1), .val (.int z1), .val (.int (Int32.ofNat n2)), .val (.int w1), .val (.ref au), .val (.ref av), .val (.ref bt), .val (.ref au), .val (.ref ai), .unset] [])
    refine oS (fun t k => XS.iload Xh1.here hx rfl (hb hby at_182) rfl  k) ?_
    refine oS (fun t k => XS.iconst Xh1.here hx rfl (hb hby at_184) k) ?_
    show oG p e below _ Th1 (mkF m 185 #[.val (.int p1), .val (.int p2), .val (.int p3), .val (.int p4), .val (.int p5), .val (.int p6), .val (.int 0), .val (.int x1), .val (.int y1), .val (.int z1), .val (.int (Int32.ofNat n2)), .val (.int w1), .val (.ref au), .val (.ref av), .val (.ref bt), .val (.ref au), .val (.ref ai), .unset] [(.int 1), (.int 0)])
    refine oS (fun t k => XS.icmpYes Xh1.here hx rfl (pc0 := 185) (pc' := 201) rfl (hb hby at_185) rfl (tlt (by decide : (0 : Int32) < 1)).1 (by decide) (by decide) k) ?_
    show oG p e below _ Th1 (mkF m 201 #[.val (.int p1), .val (.int p2), .val (.int p3), .val (.int p4), .val (.int p5), .val (.int p6), .val (.int 0), .val (.int x1), .val (.int y1), .val (.int z1), .val (.int (Int32.ofNat n2)), .val (.int w1), .val (.ref au), .val (.ref av), .val (.ref bt), .val (.ref au), .val (.ref ai), .unset] [])
    refine oS (fun t k => XS.iload Xh1.here hx rfl (hb hby at_201) rfl  k) ?_
    refine oS (fun t k => XS.iconst Xh1.here hx rfl (hb hby at_203) k) ?_
    show oG p e below _ Th1 (mkF m 204 #[.val (.int p1), .val (.int p2), .val (.int p3), .val (.int p4), .val (.int p5), .val (.int p6), .val (.int 0), .val (.int x1), .val (.int y1), .val (.int z1), .val (.int (Int32.ofNat n2)), .val (.int w1), .val (.ref au), .val (.ref av), .val (.ref bt), .val (.ref au), .val (.ref ai), .unset] [(.int 2), (.int 0)])
    refine oS (fun t k => XS.icmpYes Xh1.here hx rfl (pc0 := 204) (pc' := 220) rfl (hb hby at_204) rfl (tlt (by decide : (0 : Int32) < 2)).1 (by decide) (by decide) k) ?_
    show oG p e below _ Th1 (mkF m 220 #[.val (.int p1), .val (.int p2), .val (.int p3), .val (.int p4), .val (.int p5), .val (.int p6), .val (.int 0), .val (.int x1), .val (.int y1), .val (.int z1), .val (.int (Int32.ofNat n2)), .val (.int w1), .val (.ref au), .val (.ref av), .val (.ref bt), .val (.ref au), .val (.ref ai), .unset] [])
    refine oS (fun t k => XS.iload Xh1.here hx rfl (hb hby at_220) rfl  k) ?_
    refine oS (fun t k => XS.iconst Xh1.here hx rfl (hb hby at_222) k) ?_
    show oG p e below _ Th1 (mkF m 223 #[.val (.int p1), .val (.int p2), .val (.int p3), .val (.int p4), .val (.int p5), .val (.int p6), .val (.int 0), .val (.int x1), .val (.int y1), .val (.int z1), .val (.int (Int32.ofNat n2)), .val (.int w1), .val (.ref au), .val (.ref av), .val (.ref bt), .val (.ref au), .val (.ref ai), .unset] [(.int 3), (.int 0)])
    refine oS (fun t k => XS.icmpYes Xh1.here hx rfl (pc0 := 223) (pc' := 239) rfl (hb hby at_223) rfl (tlt (by decide : (0 : Int32) < 3)).1 (by decide) (by decide) k) ?_
    show oG p e below _ Th1 (mkF m 239 #[.val (.int p1), .val (.int p2), .val (.int p3), .val (.int p4), .val (.int p5), .val (.int p6), .val (.int 0), .val (.int x1), .val (.int y1), .val (.int z1), .val (.int (Int32.ofNat n2)), .val (.int w1), .val (.ref au), .val (.ref av), .val (.ref bt), .val (.ref au), .val (.ref ai), .unset] [])
    refine oS (fun t k => XS.iload Xh1.here hx rfl (hb hby at_239) rfl  k) ?_
    refine oS (fun t k => XS.iload Xh1.here hx rfl (hb hby at_241) rfl  k) ?_
    show oG p e below _ Th1 (mkF m 243 #[.val (.int p1), .val (.int p2), .val (.int p3), .val (.int p4), .val (.int p5), .val (.int p6), .val (.int 0), .val (.int x1), .val (.int y1), .val (.int z1), .val (.int (Int32.ofNat n2)), .val (.int w1), .val (.ref au), .val (.ref av), .val (.ref bt), .val (.ref au), .val (.ref ai), .unset] [(.int (Int32.ofNat n2)), (.int 0)])
    by_cases hnn : (0 : Int32) = (Int32.ofNat n2)
    · refine oS (fun t k => XS.icmpNo Xh1.here hx rfl (hb hby at_243) rfl (teq hnn).2 k) ?_
      show oG p e below _ Th1 (mkF m 246 #[.val (.int p1), .val (.int p2), .val (.int p3), .val (.int p4), .val (.int p5), .val (.int p6), .val (.int 0), .val (.int x1), .val (.int y1), .val (.int z1), .val (.int (Int32.ofNat n2)), .val (.int w1), .val (.ref au), .val (.ref av), .val (.ref bt), .val (.ref au), .val (.ref ai), .unset] [])
      refine oS (fun t k => XS.iload Xh1.here hx rfl (hb hby at_246) rfl  k) ?_
      refine oS (fun t k => XS.iconst Xh1.here hx rfl (hb hby at_248) k) ?_
      show oG p e below _ Th1 (mkF m 249 #[.val (.int p1), .val (.int p2), .val (.int p3), .val (.int p4), .val (.int p5), .val (.int p6), .val (.int 0), .val (.int x1), .val (.int y1), .val (.int z1), .val (.int (Int32.ofNat n2)), .val (.int w1), .val (.ref au), .val (.ref av), .val (.ref bt), .val (.ref au), .val (.ref ai), .unset] [(.int 3), (.int 0)])
      obtain rfl : 0 = n2 := own_ninj (by decide) hn2 hnn
      refine oS (fun t k => XS.icmpYes Xh1.here hx rfl (pc0 := 249) (pc' := 259) rfl (hb hby at_249) rfl (tlt (by decide : (0 : Int32) < 3)).1 (by decide) (by decide) k) ?_
      show oG p e below _ Th1 (mkF m 259 #[.val (.int p1), .val (.int p2), .val (.int p3), .val (.int p4), .val (.int p5), .val (.int p6), .val (.int 0), .val (.int x1), .val (.int y1), .val (.int z1), .val (.int 0), .val (.int w1), .val (.ref au), .val (.ref av), .val (.ref bt), .val (.ref au), .val (.ref ai), .unset] [])
      refine oS (fun t k => XS.iconst Xh1.here hx rfl (hb hby at_259) k) ?_
      refine oS (fun t k => XS.goto Xh1.here hx rfl (pc0 := 260) (pc' := 264) rfl (hb hby at_260) (by decide) (by decide) k) ?_
      show oG p e below _ Th1 (mkF m 264 #[.val (.int p1), .val (.int p2), .val (.int p3), .val (.int p4), .val (.int p5), .val (.int p6), .val (.int 0), .val (.int x1), .val (.int y1), .val (.int z1), .val (.int 0), .val (.int w1), .val (.ref au), .val (.ref av), .val (.ref bt), .val (.ref au), .val (.ref ai), .unset] [(.int 1)])
      refine oS (fun t k => XS.istore Xh1.here hx rfl (hb hby at_264) rfl (l' := #[.val (.int p1), .val (.int p2), .val (.int p3), .val (.int p4), .val (.int p5), .val (.int p6), .val (.int 0), .val (.int x1), .val (.int y1), .val (.int z1), .val (.int 0), .val (.int w1), .val (.ref au), .val (.ref av), .val (.ref bt), .val (.ref au), .val (.ref ai), .val (.int 1)]) rfl k) ?_
      show oG p e below _ Th1 (mkF m 266 #[.val (.int p1), .val (.int p2), .val (.int p3), .val (.int p4), .val (.int p5), .val (.int p6), .val (.int 0), .val (.int x1), .val (.int y1), .val (.int z1), .val (.int 0), .val (.int w1), .val (.ref au), .val (.ref av), .val (.ref bt), .val (.ref au), .val (.ref ai), .val (.int 1)] [])
      exact tail Th1 _ Xh1 eh1 Nh1 1 (by rw [if_pos (by rfl)])
    · refine oS (fun t k => XS.icmpYes Xh1.here hx rfl (pc0 := 243) (pc' := 263) rfl (hb hby at_243) rfl (feq hnn).2 (by decide) (by decide) k) ?_
      show oG p e below _ Th1 (mkF m 263 #[.val (.int p1), .val (.int p2), .val (.int p3), .val (.int p4), .val (.int p5), .val (.int p6), .val (.int 0), .val (.int x1), .val (.int y1), .val (.int z1), .val (.int (Int32.ofNat n2)), .val (.int w1), .val (.ref au), .val (.ref av), .val (.ref bt), .val (.ref au), .val (.ref ai), .unset] [])
      refine oS (fun t k => XS.iconst Xh1.here hx rfl (hb hby at_263) k) ?_
      refine oS (fun t k => XS.istore Xh1.here hx rfl (hb hby at_264) rfl (l' := #[.val (.int p1), .val (.int p2), .val (.int p3), .val (.int p4), .val (.int p5), .val (.int p6), .val (.int 0), .val (.int x1), .val (.int y1), .val (.int z1), .val (.int (Int32.ofNat n2)), .val (.int w1), .val (.ref au), .val (.ref av), .val (.ref bt), .val (.ref au), .val (.ref ai), .val (.int 0)]) rfl k) ?_
      show oG p e below _ Th1 (mkF m 266 #[.val (.int p1), .val (.int p2), .val (.int p3), .val (.int p4), .val (.int p5), .val (.int p6), .val (.int 0), .val (.int x1), .val (.int y1), .val (.int z1), .val (.int (Int32.ofNat n2)), .val (.int w1), .val (.ref au), .val (.ref av), .val (.ref bt), .val (.ref au), .val (.ref ai), .val (.int 0)] [])
      exact tail Th1 _ Xh1 eh1 Nh1 0 (by rw [if_neg (own_cneq (n := 0) hn1 hn2 hnn)])
  · show oG p e below _ Ti (mkF m 146 #[.val (.int p1), .val (.int p2), .val (.int p3), .val (.int p4), .val (.int p5), .val (.int p6), .val (.int 1), .val (.int x1), .val (.int y1), .val (.int z1), .val (.int (Int32.ofNat n2)), .val (.int w1), .val (.ref au), .val (.ref av), .val (.ref bt), .val (.ref au), .val (.ref ai), .unset] [(.ref ai)])
    have hpi : ∀ c ∈ ((95 : Int32) :: (58 : Int32) :: ([x1] : List Int32)), ¬ c < 0 ∧ ¬ (255 : Int32) < c := own_hp2 hp1
    obtain ⟨ui, kbi, LEi, LVi, LCi, LAi⟩ : own_Lat Z Ti.heap ai ((95 : Int32) :: (58 : Int32) :: ([x1] : List Int32)) := LI
    have hci : StrChars.Road.CodA ((95 : Int32) :: (58 : Int32) :: ([x1] : List Int32)) 0 (Int32.ofNat ((95 : Int32) :: (58 : Int32) :: ([x1] : List Int32)).length) ((((95 : Int32) :: (58 : Int32) :: ([x1] : List Int32)).map (fun c : Int32 => c.toInt8.toInt32)).map Value.int) := StrChars.Road.codOf rfl (fun x hx => (hpi x hx).2)
    refine own_callV Xi hx Ki.1 (y := (⟨"java/lang/String", "length", "()I"⟩ : MethodName)) (W := 0) (Q := (fun v h L => v = some (.int (Int32.ofNat ((95 : Int32) :: (58 : Int32) :: ([x1] : List Int32)).length)) ∧ L = [] ∧ h = Ti.heap)) (kc := 0) (ks := 0) howni (oW hw 196 rfl) (oW hw 114 rfl) (oW hw 116 rfl) (oW hw 115 rfl) (StrChars.Road.lenW (W := 0) (s := s.setVm Ti.vm) Ki.1 hln (kI := 4) (oW hw 5 rfl) LEi LVi LCi LAi hci (own_up hpi) SC hCS (Nat.le_of_ble_eq_true rfl) (by decide) (by decide)) (by decide) (b := ai) LEi (g := (mkF m 146 #[.val (.int p1), .val (.int p2), .val (.int p3), .val (.int p4), .val (.int p5), .val (.int p6), .val (.int 1), .val (.int x1), .val (.int y1), .val (.int z1), .val (.int (Int32.ofNat n2)), .val (.int w1), .val (.ref au), .val (.ref av), .val (.ref bt), .val (.ref au), .val (.ref ai), .unset] [(.ref ai)])) rfl (by rw [hml]; rfl) (argsL := []) (rest := []) (lenOf pd_8 rfl) rfl (by show 2 * 0 + _ ≤ _; exact Nat.le_of_eq rfl) (hb hby at_146) rfl rfl (by decide) (by decide) (fun vj Tj Lj Xj hQj => ?_)
    obtain ⟨rfl, rfl, ej⟩ := hQj
    have Nj := Fr.app Ni (Fr.nil n0)
    show oG p e below _ Tj (mkF m 149 #[.val (.int p1), .val (.int p2), .val (.int p3), .val (.int p4), .val (.int p5), .val (.int p6), .val (.int 1), .val (.int x1), .val (.int y1), .val (.int z1), .val (.int (Int32.ofNat n2)), .val (.int w1), .val (.ref au), .val (.ref av), .val (.ref bt), .val (.ref au), .val (.ref ai), .unset] [(.int 3)])
    refine oS (fun t k => XS.iload Xj.here hx rfl (hb hby at_149) rfl  k) ?_
    refine oS (fun t k => XS.iconst Xj.here hx rfl (hb hby at_151) k) ?_
    refine oS (fun t k => XS.iadd Xj.here hx rfl (hb hby at_152) rfl k) ?_
    show oG p e below _ Tj (mkF m 153 #[.val (.int p1), .val (.int p2), .val (.int p3), .val (.int p4), .val (.int p5), .val (.int p6), .val (.int 1), .val (.int x1), .val (.int y1), .val (.int z1), .val (.int (Int32.ofNat n2)), .val (.int w1), .val (.ref au), .val (.ref av), .val (.ref bt), .val (.ref au), .val (.ref ai), .unset] [(.int ((1 : Int32) + (2 : Int32))), (.int 3)])
    refine oS (fun t k => XS.icmpYes Xj.here hx rfl (pc0 := 153) (pc' := 158) rfl (hb hby at_153) rfl (teq (by decide : (3 : Int32) = (1 : Int32) + 2)).1 (by decide) (by decide) k) ?_
    show oG p e below _ Tj (mkF m 158 #[.val (.int p1), .val (.int p2), .val (.int p3), .val (.int p4), .val (.int p5), .val (.int p6), .val (.int 1), .val (.int x1), .val (.int y1), .val (.int z1), .val (.int (Int32.ofNat n2)), .val (.int w1), .val (.ref au), .val (.ref av), .val (.ref bt), .val (.ref au), .val (.ref ai), .unset] [])
    refine oS (fun t k => XS.aload Xj.here hx rfl (hb hby at_158) rfl rfl k) ?_
    refine oS (fun t k => XS.iconst Xj.here hx rfl (hb hby at_160) k) ?_
    show oG p e below _ Tj (mkF m 161 #[.val (.int p1), .val (.int p2), .val (.int p3), .val (.int p4), .val (.int p5), .val (.int p6), .val (.int 1), .val (.int x1), .val (.int y1), .val (.int z1), .val (.int (Int32.ofNat n2)), .val (.int w1), .val (.ref au), .val (.ref av), .val (.ref bt), .val (.ref au), .val (.ref ai), .unset] [(.int 0), (.ref ai)])
    refine own_callV Xj hx Ki.1 (y := (⟨"java/lang/String", "charAt", "(I)C"⟩ : MethodName)) (W := 0) (Q := (fun v h L => v = some (.int (((95 : Int32) :: (58 : Int32) :: ([x1] : List Int32)).getD 0 0)) ∧ L = [] ∧ h = Ti.heap)) (kc := 0) (ks := 0) howni (oW hw 197 rfl) (oW hw 198 rfl) (oW hw 200 rfl) (oW hw 199 rfl) (StrChars.Road.chN (W := 0) (s := s.setVm Ti.vm) Ki.1 hch (kI := 4) (oW hw 5 rfl) LEi LVi LCi LAi hci (own_up hpi) SC hCS SF rFM (Nat.le_of_ble_eq_true rfl) (i := 0) (Nat.le_of_ble_eq_true rfl) (j := 0) rfl (by decide) (by decide)) (by decide) (b := ai) LEi (g := (mkF m 161 #[.val (.int p1), .val (.int p2), .val (.int p3), .val (.int p4), .val (.int p5), .val (.int p6), .val (.int 1), .val (.int x1), .val (.int y1), .val (.int z1), .val (.int (Int32.ofNat n2)), .val (.int w1), .val (.ref au), .val (.ref av), .val (.ref bt), .val (.ref au), .val (.ref ai), .unset] [(.int 0), (.ref ai)])) rfl (by rw [hml]; rfl) (argsL := [(.int 0)]) (rest := []) (lenOf pd_26 rfl) rfl (by show 2 * 0 + _ ≤ _; exact Nat.le_of_eq rfl) (hb hby at_161) rfl ej (by decide) (by decide) (fun vh0 Th0 Lh0 Xh0 hQh0 => ?_)
    obtain ⟨rfl, rfl, eh0⟩ := hQh0
    have Nh0 := Fr.app Nj (Fr.nil n0)
    show oG p e below _ Th0 (mkF m 164 #[.val (.int p1), .val (.int p2), .val (.int p3), .val (.int p4), .val (.int p5), .val (.int p6), .val (.int 1), .val (.int x1), .val (.int y1), .val (.int z1), .val (.int (Int32.ofNat n2)), .val (.int w1), .val (.ref au), .val (.ref av), .val (.ref bt), .val (.ref au), .val (.ref ai), .unset] [(.int 95)])
    refine oS (fun t k => XS.bipush Xh0.here hx rfl (hb hby at_164) k) ?_
    show oG p e below _ Th0 (mkF m 166 #[.val (.int p1), .val (.int p2), .val (.int p3), .val (.int p4), .val (.int p5), .val (.int p6), .val (.int 1), .val (.int x1), .val (.int y1), .val (.int z1), .val (.int (Int32.ofNat n2)), .val (.int w1), .val (.ref au), .val (.ref av), .val (.ref bt), .val (.ref au), .val (.ref ai), .unset] [(.int 95), (.int 95)])
    refine oS (fun t k => XS.icmpNo Xh0.here hx rfl (hb hby at_166) rfl (teq (rfl : (95 : Int32) = 95)).2 k) ?_
    show oG p e below _ Th0 (mkF m 169 #[.val (.int p1), .val (.int p2), .val (.int p3), .val (.int p4), .val (.int p5), .val (.int p6), .val (.int 1), .val (.int x1), .val (.int y1), .val (.int z1), .val (.int (Int32.ofNat n2)), .val (.int w1), .val (.ref au), .val (.ref av), .val (.ref bt), .val (.ref au), .val (.ref ai), .unset] [])
    refine oS (fun t k => XS.aload Xh0.here hx rfl (hb hby at_169) rfl rfl k) ?_
    refine oS (fun t k => XS.iconst Xh0.here hx rfl (hb hby at_171) k) ?_
    show oG p e below _ Th0 (mkF m 172 #[.val (.int p1), .val (.int p2), .val (.int p3), .val (.int p4), .val (.int p5), .val (.int p6), .val (.int 1), .val (.int x1), .val (.int y1), .val (.int z1), .val (.int (Int32.ofNat n2)), .val (.int w1), .val (.ref au), .val (.ref av), .val (.ref bt), .val (.ref au), .val (.ref ai), .unset] [(.int 1), (.ref ai)])
    refine own_callV Xh0 hx Ki.1 (y := (⟨"java/lang/String", "charAt", "(I)C"⟩ : MethodName)) (W := 0) (Q := (fun v h L => v = some (.int (((95 : Int32) :: (58 : Int32) :: ([x1] : List Int32)).getD 1 0)) ∧ L = [] ∧ h = Ti.heap)) (kc := 0) (ks := 0) howni (oW hw 197 rfl) (oW hw 198 rfl) (oW hw 200 rfl) (oW hw 199 rfl) (StrChars.Road.chN (W := 0) (s := s.setVm Ti.vm) Ki.1 hch (kI := 4) (oW hw 5 rfl) LEi LVi LCi LAi hci (own_up hpi) SC hCS SF rFM (Nat.le_of_ble_eq_true rfl) (i := 1) (Nat.le_of_ble_eq_true rfl) (j := 1) rfl (by decide) (by decide)) (by decide) (b := ai) LEi (g := (mkF m 172 #[.val (.int p1), .val (.int p2), .val (.int p3), .val (.int p4), .val (.int p5), .val (.int p6), .val (.int 1), .val (.int x1), .val (.int y1), .val (.int z1), .val (.int (Int32.ofNat n2)), .val (.int w1), .val (.ref au), .val (.ref av), .val (.ref bt), .val (.ref au), .val (.ref ai), .unset] [(.int 1), (.ref ai)])) rfl (by rw [hml]; rfl) (argsL := [(.int 1)]) (rest := []) (lenOf pd_26 rfl) rfl (by show 2 * 0 + _ ≤ _; exact Nat.le_of_eq rfl) (hb hby at_172) rfl eh0 (by decide) (by decide) (fun vh1 Th1 Lh1 Xh1 hQh1 => ?_)
    obtain ⟨rfl, rfl, eh1⟩ := hQh1
    have Nh1 := Fr.app Nh0 (Fr.nil n0)
    show oG p e below _ Th1 (mkF m 175 #[.val (.int p1), .val (.int p2), .val (.int p3), .val (.int p4), .val (.int p5), .val (.int p6), .val (.int 1), .val (.int x1), .val (.int y1), .val (.int z1), .val (.int (Int32.ofNat n2)), .val (.int w1), .val (.ref au), .val (.ref av), .val (.ref bt), .val (.ref au), .val (.ref ai), .unset] [(.int 58)])
    refine oS (fun t k => XS.bipush Xh1.here hx rfl (hb hby at_175) k) ?_
    show oG p e below _ Th1 (mkF m 177 #[.val (.int p1), .val (.int p2), .val (.int p3), .val (.int p4), .val (.int p5), .val (.int p6), .val (.int 1), .val (.int x1), .val (.int y1), .val (.int z1), .val (.int (Int32.ofNat n2)), .val (.int w1), .val (.ref au), .val (.ref av), .val (.ref bt), .val (.ref au), .val (.ref ai), .unset] [(.int 58), (.int 58)])
    refine oS (fun t k => XS.icmpYes Xh1.here hx rfl (pc0 := 177) (pc' := 182) rfl (hb hby at_177) rfl (teq (rfl : (58 : Int32) = 58)).1 (by decide) (by decide) k) ?_
    show oG p e below _ Th1 (mkF m 182 #[.val (.int p1), .val (.int p2), .val (.int p3), .val (.int p4), .val (.int p5), .val (.int p6), .val (.int 1), .val (.int x1), .val (.int y1), .val (.int z1), .val (.int (Int32.ofNat n2)), .val (.int w1), .val (.ref au), .val (.ref av), .val (.ref bt), .val (.ref au), .val (.ref ai), .unset] [])
    refine oS (fun t k => XS.iload Xh1.here hx rfl (hb hby at_182) rfl  k) ?_
    refine oS (fun t k => XS.iconst Xh1.here hx rfl (hb hby at_184) k) ?_
    show oG p e below _ Th1 (mkF m 185 #[.val (.int p1), .val (.int p2), .val (.int p3), .val (.int p4), .val (.int p5), .val (.int p6), .val (.int 1), .val (.int x1), .val (.int y1), .val (.int z1), .val (.int (Int32.ofNat n2)), .val (.int w1), .val (.ref au), .val (.ref av), .val (.ref bt), .val (.ref au), .val (.ref ai), .unset] [(.int 1), (.int 1)])
    refine oS (fun t k => XS.icmpNo Xh1.here hx rfl (hb hby at_185) rfl (flt (by decide : ¬ (1 : Int32) < 1)).1 k) ?_
    show oG p e below _ Th1 (mkF m 188 #[.val (.int p1), .val (.int p2), .val (.int p3), .val (.int p4), .val (.int p5), .val (.int p6), .val (.int 1), .val (.int x1), .val (.int y1), .val (.int z1), .val (.int (Int32.ofNat n2)), .val (.int w1), .val (.ref au), .val (.ref av), .val (.ref bt), .val (.ref au), .val (.ref ai), .unset] [])
    refine oS (fun t k => XS.aload Xh1.here hx rfl (hb hby at_188) rfl rfl k) ?_
    refine oS (fun t k => XS.iconst Xh1.here hx rfl (hb hby at_190) k) ?_
    show oG p e below _ Th1 (mkF m 191 #[.val (.int p1), .val (.int p2), .val (.int p3), .val (.int p4), .val (.int p5), .val (.int p6), .val (.int 1), .val (.int x1), .val (.int y1), .val (.int z1), .val (.int (Int32.ofNat n2)), .val (.int w1), .val (.ref au), .val (.ref av), .val (.ref bt), .val (.ref au), .val (.ref ai), .unset] [(.int 2), (.ref ai)])
    refine own_callV Xh1 hx Ki.1 (y := (⟨"java/lang/String", "charAt", "(I)C"⟩ : MethodName)) (W := 0) (Q := (fun v h L => v = some (.int (((95 : Int32) :: (58 : Int32) :: ([x1] : List Int32)).getD 2 0)) ∧ L = [] ∧ h = Ti.heap)) (kc := 0) (ks := 0) howni (oW hw 197 rfl) (oW hw 198 rfl) (oW hw 200 rfl) (oW hw 199 rfl) (StrChars.Road.chN (W := 0) (s := s.setVm Ti.vm) Ki.1 hch (kI := 4) (oW hw 5 rfl) LEi LVi LCi LAi hci (own_up hpi) SC hCS SF rFM (Nat.le_of_ble_eq_true rfl) (i := 2) (Nat.le_of_ble_eq_true rfl) (j := 2) rfl (by decide) (by decide)) (by decide) (b := ai) LEi (g := (mkF m 191 #[.val (.int p1), .val (.int p2), .val (.int p3), .val (.int p4), .val (.int p5), .val (.int p6), .val (.int 1), .val (.int x1), .val (.int y1), .val (.int z1), .val (.int (Int32.ofNat n2)), .val (.int w1), .val (.ref au), .val (.ref av), .val (.ref bt), .val (.ref au), .val (.ref ai), .unset] [(.int 2), (.ref ai)])) rfl (by rw [hml]; rfl) (argsL := [(.int 2)]) (rest := []) (lenOf pd_26 rfl) rfl (by show 2 * 0 + _ ≤ _; exact Nat.le_of_eq rfl) (hb hby at_191) rfl eh1 (by decide) (by decide) (fun vh2 Th2 Lh2 Xh2 hQh2 => ?_)
    obtain ⟨rfl, rfl, eh2⟩ := hQh2
    have Nh2 := Fr.app Nh1 (Fr.nil n0)
    show oG p e below _ Th2 (mkF m 194 #[.val (.int p1), .val (.int p2), .val (.int p3), .val (.int p4), .val (.int p5), .val (.int p6), .val (.int 1), .val (.int x1), .val (.int y1), .val (.int z1), .val (.int (Int32.ofNat n2)), .val (.int w1), .val (.ref au), .val (.ref av), .val (.ref bt), .val (.ref au), .val (.ref ai), .unset] [(.int x1)])
    refine oS (fun t k => XS.iload Xh2.here hx rfl (hb hby at_194) rfl  k) ?_
    show oG p e below _ Th2 (mkF m 196 #[.val (.int p1), .val (.int p2), .val (.int p3), .val (.int p4), .val (.int p5), .val (.int p6), .val (.int 1), .val (.int x1), .val (.int y1), .val (.int z1), .val (.int (Int32.ofNat n2)), .val (.int w1), .val (.ref au), .val (.ref av), .val (.ref bt), .val (.ref au), .val (.ref ai), .unset] [(.int x1), (.int x1)])
    refine oS (fun t k => XS.icmpYes Xh2.here hx rfl (pc0 := 196) (pc' := 201) rfl (hb hby at_196) rfl (teq (rfl : x1 = x1)).1 (by decide) (by decide) k) ?_
    show oG p e below _ Th2 (mkF m 201 #[.val (.int p1), .val (.int p2), .val (.int p3), .val (.int p4), .val (.int p5), .val (.int p6), .val (.int 1), .val (.int x1), .val (.int y1), .val (.int z1), .val (.int (Int32.ofNat n2)), .val (.int w1), .val (.ref au), .val (.ref av), .val (.ref bt), .val (.ref au), .val (.ref ai), .unset] [])
    refine oS (fun t k => XS.iload Xh2.here hx rfl (hb hby at_201) rfl  k) ?_
    refine oS (fun t k => XS.iconst Xh2.here hx rfl (hb hby at_203) k) ?_
    show oG p e below _ Th2 (mkF m 204 #[.val (.int p1), .val (.int p2), .val (.int p3), .val (.int p4), .val (.int p5), .val (.int p6), .val (.int 1), .val (.int x1), .val (.int y1), .val (.int z1), .val (.int (Int32.ofNat n2)), .val (.int w1), .val (.ref au), .val (.ref av), .val (.ref bt), .val (.ref au), .val (.ref ai), .unset] [(.int 2), (.int 1)])
    refine oS (fun t k => XS.icmpYes Xh2.here hx rfl (pc0 := 204) (pc' := 220) rfl (hb hby at_204) rfl (tlt (by decide : (1 : Int32) < 2)).1 (by decide) (by decide) k) ?_
    show oG p e below _ Th2 (mkF m 220 #[.val (.int p1), .val (.int p2), .val (.int p3), .val (.int p4), .val (.int p5), .val (.int p6), .val (.int 1), .val (.int x1), .val (.int y1), .val (.int z1), .val (.int (Int32.ofNat n2)), .val (.int w1), .val (.ref au), .val (.ref av), .val (.ref bt), .val (.ref au), .val (.ref ai), .unset] [])
    refine oS (fun t k => XS.iload Xh2.here hx rfl (hb hby at_220) rfl  k) ?_
    refine oS (fun t k => XS.iconst Xh2.here hx rfl (hb hby at_222) k) ?_
    show oG p e below _ Th2 (mkF m 223 #[.val (.int p1), .val (.int p2), .val (.int p3), .val (.int p4), .val (.int p5), .val (.int p6), .val (.int 1), .val (.int x1), .val (.int y1), .val (.int z1), .val (.int (Int32.ofNat n2)), .val (.int w1), .val (.ref au), .val (.ref av), .val (.ref bt), .val (.ref au), .val (.ref ai), .unset] [(.int 3), (.int 1)])
    refine oS (fun t k => XS.icmpYes Xh2.here hx rfl (pc0 := 223) (pc' := 239) rfl (hb hby at_223) rfl (tlt (by decide : (1 : Int32) < 3)).1 (by decide) (by decide) k) ?_
    show oG p e below _ Th2 (mkF m 239 #[.val (.int p1), .val (.int p2), .val (.int p3), .val (.int p4), .val (.int p5), .val (.int p6), .val (.int 1), .val (.int x1), .val (.int y1), .val (.int z1), .val (.int (Int32.ofNat n2)), .val (.int w1), .val (.ref au), .val (.ref av), .val (.ref bt), .val (.ref au), .val (.ref ai), .unset] [])
    refine oS (fun t k => XS.iload Xh2.here hx rfl (hb hby at_239) rfl  k) ?_
    refine oS (fun t k => XS.iload Xh2.here hx rfl (hb hby at_241) rfl  k) ?_
    show oG p e below _ Th2 (mkF m 243 #[.val (.int p1), .val (.int p2), .val (.int p3), .val (.int p4), .val (.int p5), .val (.int p6), .val (.int 1), .val (.int x1), .val (.int y1), .val (.int z1), .val (.int (Int32.ofNat n2)), .val (.int w1), .val (.ref au), .val (.ref av), .val (.ref bt), .val (.ref au), .val (.ref ai), .unset] [(.int (Int32.ofNat n2)), (.int 1)])
    by_cases hnn : (1 : Int32) = (Int32.ofNat n2)
    · refine oS (fun t k => XS.icmpNo Xh2.here hx rfl (hb hby at_243) rfl (teq hnn).2 k) ?_
      show oG p e below _ Th2 (mkF m 246 #[.val (.int p1), .val (.int p2), .val (.int p3), .val (.int p4), .val (.int p5), .val (.int p6), .val (.int 1), .val (.int x1), .val (.int y1), .val (.int z1), .val (.int (Int32.ofNat n2)), .val (.int w1), .val (.ref au), .val (.ref av), .val (.ref bt), .val (.ref au), .val (.ref ai), .unset] [])
      refine oS (fun t k => XS.iload Xh2.here hx rfl (hb hby at_246) rfl  k) ?_
      refine oS (fun t k => XS.iconst Xh2.here hx rfl (hb hby at_248) k) ?_
      show oG p e below _ Th2 (mkF m 249 #[.val (.int p1), .val (.int p2), .val (.int p3), .val (.int p4), .val (.int p5), .val (.int p6), .val (.int 1), .val (.int x1), .val (.int y1), .val (.int z1), .val (.int (Int32.ofNat n2)), .val (.int w1), .val (.ref au), .val (.ref av), .val (.ref bt), .val (.ref au), .val (.ref ai), .unset] [(.int 3), (.int 1)])
      obtain rfl : 1 = n2 := own_ninj (by decide) hn2 hnn
      refine oS (fun t k => XS.icmpYes Xh2.here hx rfl (pc0 := 249) (pc' := 259) rfl (hb hby at_249) rfl (tlt (by decide : (1 : Int32) < 3)).1 (by decide) (by decide) k) ?_
      show oG p e below _ Th2 (mkF m 259 #[.val (.int p1), .val (.int p2), .val (.int p3), .val (.int p4), .val (.int p5), .val (.int p6), .val (.int 1), .val (.int x1), .val (.int y1), .val (.int z1), .val (.int 1), .val (.int w1), .val (.ref au), .val (.ref av), .val (.ref bt), .val (.ref au), .val (.ref ai), .unset] [])
      refine oS (fun t k => XS.iconst Xh2.here hx rfl (hb hby at_259) k) ?_
      refine oS (fun t k => XS.goto Xh2.here hx rfl (pc0 := 260) (pc' := 264) rfl (hb hby at_260) (by decide) (by decide) k) ?_
      show oG p e below _ Th2 (mkF m 264 #[.val (.int p1), .val (.int p2), .val (.int p3), .val (.int p4), .val (.int p5), .val (.int p6), .val (.int 1), .val (.int x1), .val (.int y1), .val (.int z1), .val (.int 1), .val (.int w1), .val (.ref au), .val (.ref av), .val (.ref bt), .val (.ref au), .val (.ref ai), .unset] [(.int 1)])
      refine oS (fun t k => XS.istore Xh2.here hx rfl (hb hby at_264) rfl (l' := #[.val (.int p1), .val (.int p2), .val (.int p3), .val (.int p4), .val (.int p5), .val (.int p6), .val (.int 1), .val (.int x1), .val (.int y1), .val (.int z1), .val (.int 1), .val (.int w1), .val (.ref au), .val (.ref av), .val (.ref bt), .val (.ref au), .val (.ref ai), .val (.int 1)]) rfl k) ?_
      show oG p e below _ Th2 (mkF m 266 #[.val (.int p1), .val (.int p2), .val (.int p3), .val (.int p4), .val (.int p5), .val (.int p6), .val (.int 1), .val (.int x1), .val (.int y1), .val (.int z1), .val (.int 1), .val (.int w1), .val (.ref au), .val (.ref av), .val (.ref bt), .val (.ref au), .val (.ref ai), .val (.int 1)] [])
      exact tail Th2 _ Xh2 eh2 Nh2 1 (by rw [if_pos (by rfl)])
    · refine oS (fun t k => XS.icmpYes Xh2.here hx rfl (pc0 := 243) (pc' := 263) rfl (hb hby at_243) rfl (feq hnn).2 (by decide) (by decide) k) ?_
      show oG p e below _ Th2 (mkF m 263 #[.val (.int p1), .val (.int p2), .val (.int p3), .val (.int p4), .val (.int p5), .val (.int p6), .val (.int 1), .val (.int x1), .val (.int y1), .val (.int z1), .val (.int (Int32.ofNat n2)), .val (.int w1), .val (.ref au), .val (.ref av), .val (.ref bt), .val (.ref au), .val (.ref ai), .unset] [])
      refine oS (fun t k => XS.iconst Xh2.here hx rfl (hb hby at_263) k) ?_
      refine oS (fun t k => XS.istore Xh2.here hx rfl (hb hby at_264) rfl (l' := #[.val (.int p1), .val (.int p2), .val (.int p3), .val (.int p4), .val (.int p5), .val (.int p6), .val (.int 1), .val (.int x1), .val (.int y1), .val (.int z1), .val (.int (Int32.ofNat n2)), .val (.int w1), .val (.ref au), .val (.ref av), .val (.ref bt), .val (.ref au), .val (.ref ai), .val (.int 0)]) rfl k) ?_
      show oG p e below _ Th2 (mkF m 266 #[.val (.int p1), .val (.int p2), .val (.int p3), .val (.int p4), .val (.int p5), .val (.int p6), .val (.int 1), .val (.int x1), .val (.int y1), .val (.int z1), .val (.int (Int32.ofNat n2)), .val (.int w1), .val (.ref au), .val (.ref av), .val (.ref bt), .val (.ref au), .val (.ref ai), .val (.int 0)] [])
      exact tail Th2 _ Xh2 eh2 Nh2 0 (by rw [if_neg (own_cneq (n := 1) hn1 hn2 hnn)])
  · show oG p e below _ Ti (mkF m 146 #[.val (.int p1), .val (.int p2), .val (.int p3), .val (.int p4), .val (.int p5), .val (.int p6), .val (.int 2), .val (.int x1), .val (.int y1), .val (.int z1), .val (.int (Int32.ofNat n2)), .val (.int w1), .val (.ref au), .val (.ref av), .val (.ref bt), .val (.ref au), .val (.ref ai), .unset] [(.ref ai)])
    have hpi : ∀ c ∈ ((95 : Int32) :: (58 : Int32) :: ([x1, y1] : List Int32)), ¬ c < 0 ∧ ¬ (255 : Int32) < c := own_hp2 hp1
    obtain ⟨ui, kbi, LEi, LVi, LCi, LAi⟩ : own_Lat Z Ti.heap ai ((95 : Int32) :: (58 : Int32) :: ([x1, y1] : List Int32)) := LI
    have hci : StrChars.Road.CodA ((95 : Int32) :: (58 : Int32) :: ([x1, y1] : List Int32)) 0 (Int32.ofNat ((95 : Int32) :: (58 : Int32) :: ([x1, y1] : List Int32)).length) ((((95 : Int32) :: (58 : Int32) :: ([x1, y1] : List Int32)).map (fun c : Int32 => c.toInt8.toInt32)).map Value.int) := StrChars.Road.codOf rfl (fun x hx => (hpi x hx).2)
    refine own_callV Xi hx Ki.1 (y := (⟨"java/lang/String", "length", "()I"⟩ : MethodName)) (W := 0) (Q := (fun v h L => v = some (.int (Int32.ofNat ((95 : Int32) :: (58 : Int32) :: ([x1, y1] : List Int32)).length)) ∧ L = [] ∧ h = Ti.heap)) (kc := 0) (ks := 0) howni (oW hw 196 rfl) (oW hw 114 rfl) (oW hw 116 rfl) (oW hw 115 rfl) (StrChars.Road.lenW (W := 0) (s := s.setVm Ti.vm) Ki.1 hln (kI := 4) (oW hw 5 rfl) LEi LVi LCi LAi hci (own_up hpi) SC hCS (Nat.le_of_ble_eq_true rfl) (by decide) (by decide)) (by decide) (b := ai) LEi (g := (mkF m 146 #[.val (.int p1), .val (.int p2), .val (.int p3), .val (.int p4), .val (.int p5), .val (.int p6), .val (.int 2), .val (.int x1), .val (.int y1), .val (.int z1), .val (.int (Int32.ofNat n2)), .val (.int w1), .val (.ref au), .val (.ref av), .val (.ref bt), .val (.ref au), .val (.ref ai), .unset] [(.ref ai)])) rfl (by rw [hml]; rfl) (argsL := []) (rest := []) (lenOf pd_8 rfl) rfl (by show 2 * 0 + _ ≤ _; exact Nat.le_of_eq rfl) (hb hby at_146) rfl rfl (by decide) (by decide) (fun vj Tj Lj Xj hQj => ?_)
    obtain ⟨rfl, rfl, ej⟩ := hQj
    have Nj := Fr.app Ni (Fr.nil n0)
    show oG p e below _ Tj (mkF m 149 #[.val (.int p1), .val (.int p2), .val (.int p3), .val (.int p4), .val (.int p5), .val (.int p6), .val (.int 2), .val (.int x1), .val (.int y1), .val (.int z1), .val (.int (Int32.ofNat n2)), .val (.int w1), .val (.ref au), .val (.ref av), .val (.ref bt), .val (.ref au), .val (.ref ai), .unset] [(.int 4)])
    refine oS (fun t k => XS.iload Xj.here hx rfl (hb hby at_149) rfl  k) ?_
    refine oS (fun t k => XS.iconst Xj.here hx rfl (hb hby at_151) k) ?_
    refine oS (fun t k => XS.iadd Xj.here hx rfl (hb hby at_152) rfl k) ?_
    show oG p e below _ Tj (mkF m 153 #[.val (.int p1), .val (.int p2), .val (.int p3), .val (.int p4), .val (.int p5), .val (.int p6), .val (.int 2), .val (.int x1), .val (.int y1), .val (.int z1), .val (.int (Int32.ofNat n2)), .val (.int w1), .val (.ref au), .val (.ref av), .val (.ref bt), .val (.ref au), .val (.ref ai), .unset] [(.int ((2 : Int32) + (2 : Int32))), (.int 4)])
    refine oS (fun t k => XS.icmpYes Xj.here hx rfl (pc0 := 153) (pc' := 158) rfl (hb hby at_153) rfl (teq (by decide : (4 : Int32) = (2 : Int32) + 2)).1 (by decide) (by decide) k) ?_
    show oG p e below _ Tj (mkF m 158 #[.val (.int p1), .val (.int p2), .val (.int p3), .val (.int p4), .val (.int p5), .val (.int p6), .val (.int 2), .val (.int x1), .val (.int y1), .val (.int z1), .val (.int (Int32.ofNat n2)), .val (.int w1), .val (.ref au), .val (.ref av), .val (.ref bt), .val (.ref au), .val (.ref ai), .unset] [])
    refine oS (fun t k => XS.aload Xj.here hx rfl (hb hby at_158) rfl rfl k) ?_
    refine oS (fun t k => XS.iconst Xj.here hx rfl (hb hby at_160) k) ?_
    show oG p e below _ Tj (mkF m 161 #[.val (.int p1), .val (.int p2), .val (.int p3), .val (.int p4), .val (.int p5), .val (.int p6), .val (.int 2), .val (.int x1), .val (.int y1), .val (.int z1), .val (.int (Int32.ofNat n2)), .val (.int w1), .val (.ref au), .val (.ref av), .val (.ref bt), .val (.ref au), .val (.ref ai), .unset] [(.int 0), (.ref ai)])
    refine own_callV Xj hx Ki.1 (y := (⟨"java/lang/String", "charAt", "(I)C"⟩ : MethodName)) (W := 0) (Q := (fun v h L => v = some (.int (((95 : Int32) :: (58 : Int32) :: ([x1, y1] : List Int32)).getD 0 0)) ∧ L = [] ∧ h = Ti.heap)) (kc := 0) (ks := 0) howni (oW hw 197 rfl) (oW hw 198 rfl) (oW hw 200 rfl) (oW hw 199 rfl) (StrChars.Road.chN (W := 0) (s := s.setVm Ti.vm) Ki.1 hch (kI := 4) (oW hw 5 rfl) LEi LVi LCi LAi hci (own_up hpi) SC hCS SF rFM (Nat.le_of_ble_eq_true rfl) (i := 0) (Nat.le_of_ble_eq_true rfl) (j := 0) rfl (by decide) (by decide)) (by decide) (b := ai) LEi (g := (mkF m 161 #[.val (.int p1), .val (.int p2), .val (.int p3), .val (.int p4), .val (.int p5), .val (.int p6), .val (.int 2), .val (.int x1), .val (.int y1), .val (.int z1), .val (.int (Int32.ofNat n2)), .val (.int w1), .val (.ref au), .val (.ref av), .val (.ref bt), .val (.ref au), .val (.ref ai), .unset] [(.int 0), (.ref ai)])) rfl (by rw [hml]; rfl) (argsL := [(.int 0)]) (rest := []) (lenOf pd_26 rfl) rfl (by show 2 * 0 + _ ≤ _; exact Nat.le_of_eq rfl) (hb hby at_161) rfl ej (by decide) (by decide) (fun vh0 Th0 Lh0 Xh0 hQh0 => ?_)
    obtain ⟨rfl, rfl, eh0⟩ := hQh0
    have Nh0 := Fr.app Nj (Fr.nil n0)
    show oG p e below _ Th0 (mkF m 164 #[.val (.int p1), .val (.int p2), .val (.int p3), .val (.int p4), .val (.int p5), .val (.int p6), .val (.int 2), .val (.int x1), .val (.int y1), .val (.int z1), .val (.int (Int32.ofNat n2)), .val (.int w1), .val (.ref au), .val (.ref av), .val (.ref bt), .val (.ref au), .val (.ref ai), .unset] [(.int 95)])
    refine oS (fun t k => XS.bipush Xh0.here hx rfl (hb hby at_164) k) ?_
    show oG p e below _ Th0 (mkF m 166 #[.val (.int p1), .val (.int p2), .val (.int p3), .val (.int p4), .val (.int p5), .val (.int p6), .val (.int 2), .val (.int x1), .val (.int y1), .val (.int z1), .val (.int (Int32.ofNat n2)), .val (.int w1), .val (.ref au), .val (.ref av), .val (.ref bt), .val (.ref au), .val (.ref ai), .unset] [(.int 95), (.int 95)])
    refine oS (fun t k => XS.icmpNo Xh0.here hx rfl (hb hby at_166) rfl (teq (rfl : (95 : Int32) = 95)).2 k) ?_
    show oG p e below _ Th0 (mkF m 169 #[.val (.int p1), .val (.int p2), .val (.int p3), .val (.int p4), .val (.int p5), .val (.int p6), .val (.int 2), .val (.int x1), .val (.int y1), .val (.int z1), .val (.int (Int32.ofNat n2)), .val (.int w1), .val (.ref au), .val (.ref av), .val (.ref bt), .val (.ref au), .val (.ref ai), .unset] [])
    refine oS (fun t k => XS.aload Xh0.here hx rfl (hb hby at_169) rfl rfl k) ?_
    refine oS (fun t k => XS.iconst Xh0.here hx rfl (hb hby at_171) k) ?_
    show oG p e below _ Th0 (mkF m 172 #[.val (.int p1), .val (.int p2), .val (.int p3), .val (.int p4), .val (.int p5), .val (.int p6), .val (.int 2), .val (.int x1), .val (.int y1), .val (.int z1), .val (.int (Int32.ofNat n2)), .val (.int w1), .val (.ref au), .val (.ref av), .val (.ref bt), .val (.ref au), .val (.ref ai), .unset] [(.int 1), (.ref ai)])
    refine own_callV Xh0 hx Ki.1 (y := (⟨"java/lang/String", "charAt", "(I)C"⟩ : MethodName)) (W := 0) (Q := (fun v h L => v = some (.int (((95 : Int32) :: (58 : Int32) :: ([x1, y1] : List Int32)).getD 1 0)) ∧ L = [] ∧ h = Ti.heap)) (kc := 0) (ks := 0) howni (oW hw 197 rfl) (oW hw 198 rfl) (oW hw 200 rfl) (oW hw 199 rfl) (StrChars.Road.chN (W := 0) (s := s.setVm Ti.vm) Ki.1 hch (kI := 4) (oW hw 5 rfl) LEi LVi LCi LAi hci (own_up hpi) SC hCS SF rFM (Nat.le_of_ble_eq_true rfl) (i := 1) (Nat.le_of_ble_eq_true rfl) (j := 1) rfl (by decide) (by decide)) (by decide) (b := ai) LEi (g := (mkF m 172 #[.val (.int p1), .val (.int p2), .val (.int p3), .val (.int p4), .val (.int p5), .val (.int p6), .val (.int 2), .val (.int x1), .val (.int y1), .val (.int z1), .val (.int (Int32.ofNat n2)), .val (.int w1), .val (.ref au), .val (.ref av), .val (.ref bt), .val (.ref au), .val (.ref ai), .unset] [(.int 1), (.ref ai)])) rfl (by rw [hml]; rfl) (argsL := [(.int 1)]) (rest := []) (lenOf pd_26 rfl) rfl (by show 2 * 0 + _ ≤ _; exact Nat.le_of_eq rfl) (hb hby at_172) rfl eh0 (by decide) (by decide) (fun vh1 Th1 Lh1 Xh1 hQh1 => ?_)
    obtain ⟨rfl, rfl, eh1⟩ := hQh1
    have Nh1 := Fr.app Nh0 (Fr.nil n0)
    show oG p e below _ Th1 (mkF m 175 #[.val (.int p1), .val (.int p2), .val (.int p3), .val (.int p4), .val (.int p5), .val (.int p6), .val (.int 2), .val (.int x1), .val (.int y1), .val (.int z1), .val (.int (Int32.ofNat n2)), .val (.int w1), .val (.ref au), .val (.ref av), .val (.ref bt), .val (.ref au), .val (.ref ai), .unset] [(.int 58)])
    refine oS (fun t k => XS.bipush Xh1.here hx rfl (hb hby at_175) k) ?_
    show oG p e below _ Th1 (mkF m 177 #[.val (.int p1), .val (.int p2), .val (.int p3), .val (.int p4), .val (.int p5), .val (.int p6), .val (.int 2), .val (.int x1), .val (.int y1), .val (.int z1), .val (.int (Int32.ofNat n2)), .val (.int w1), .val (.ref au), .val (.ref av), .val (.ref bt), .val (.ref au), .val (.ref ai), .unset] [(.int 58), (.int 58)])
    refine oS (fun t k => XS.icmpYes Xh1.here hx rfl (pc0 := 177) (pc' := 182) rfl (hb hby at_177) rfl (teq (rfl : (58 : Int32) = 58)).1 (by decide) (by decide) k) ?_
    show oG p e below _ Th1 (mkF m 182 #[.val (.int p1), .val (.int p2), .val (.int p3), .val (.int p4), .val (.int p5), .val (.int p6), .val (.int 2), .val (.int x1), .val (.int y1), .val (.int z1), .val (.int (Int32.ofNat n2)), .val (.int w1), .val (.ref au), .val (.ref av), .val (.ref bt), .val (.ref au), .val (.ref ai), .unset] [])
    refine oS (fun t k => XS.iload Xh1.here hx rfl (hb hby at_182) rfl  k) ?_
    refine oS (fun t k => XS.iconst Xh1.here hx rfl (hb hby at_184) k) ?_
    show oG p e below _ Th1 (mkF m 185 #[.val (.int p1), .val (.int p2), .val (.int p3), .val (.int p4), .val (.int p5), .val (.int p6), .val (.int 2), .val (.int x1), .val (.int y1), .val (.int z1), .val (.int (Int32.ofNat n2)), .val (.int w1), .val (.ref au), .val (.ref av), .val (.ref bt), .val (.ref au), .val (.ref ai), .unset] [(.int 1), (.int 2)])
    refine oS (fun t k => XS.icmpNo Xh1.here hx rfl (hb hby at_185) rfl (flt (by decide : ¬ (2 : Int32) < 1)).1 k) ?_
    show oG p e below _ Th1 (mkF m 188 #[.val (.int p1), .val (.int p2), .val (.int p3), .val (.int p4), .val (.int p5), .val (.int p6), .val (.int 2), .val (.int x1), .val (.int y1), .val (.int z1), .val (.int (Int32.ofNat n2)), .val (.int w1), .val (.ref au), .val (.ref av), .val (.ref bt), .val (.ref au), .val (.ref ai), .unset] [])
    refine oS (fun t k => XS.aload Xh1.here hx rfl (hb hby at_188) rfl rfl k) ?_
    refine oS (fun t k => XS.iconst Xh1.here hx rfl (hb hby at_190) k) ?_
    show oG p e below _ Th1 (mkF m 191 #[.val (.int p1), .val (.int p2), .val (.int p3), .val (.int p4), .val (.int p5), .val (.int p6), .val (.int 2), .val (.int x1), .val (.int y1), .val (.int z1), .val (.int (Int32.ofNat n2)), .val (.int w1), .val (.ref au), .val (.ref av), .val (.ref bt), .val (.ref au), .val (.ref ai), .unset] [(.int 2), (.ref ai)])
    refine own_callV Xh1 hx Ki.1 (y := (⟨"java/lang/String", "charAt", "(I)C"⟩ : MethodName)) (W := 0) (Q := (fun v h L => v = some (.int (((95 : Int32) :: (58 : Int32) :: ([x1, y1] : List Int32)).getD 2 0)) ∧ L = [] ∧ h = Ti.heap)) (kc := 0) (ks := 0) howni (oW hw 197 rfl) (oW hw 198 rfl) (oW hw 200 rfl) (oW hw 199 rfl) (StrChars.Road.chN (W := 0) (s := s.setVm Ti.vm) Ki.1 hch (kI := 4) (oW hw 5 rfl) LEi LVi LCi LAi hci (own_up hpi) SC hCS SF rFM (Nat.le_of_ble_eq_true rfl) (i := 2) (Nat.le_of_ble_eq_true rfl) (j := 2) rfl (by decide) (by decide)) (by decide) (b := ai) LEi (g := (mkF m 191 #[.val (.int p1), .val (.int p2), .val (.int p3), .val (.int p4), .val (.int p5), .val (.int p6), .val (.int 2), .val (.int x1), .val (.int y1), .val (.int z1), .val (.int (Int32.ofNat n2)), .val (.int w1), .val (.ref au), .val (.ref av), .val (.ref bt), .val (.ref au), .val (.ref ai), .unset] [(.int 2), (.ref ai)])) rfl (by rw [hml]; rfl) (argsL := [(.int 2)]) (rest := []) (lenOf pd_26 rfl) rfl (by show 2 * 0 + _ ≤ _; exact Nat.le_of_eq rfl) (hb hby at_191) rfl eh1 (by decide) (by decide) (fun vh2 Th2 Lh2 Xh2 hQh2 => ?_)
    obtain ⟨rfl, rfl, eh2⟩ := hQh2
    have Nh2 := Fr.app Nh1 (Fr.nil n0)
    show oG p e below _ Th2 (mkF m 194 #[.val (.int p1), .val (.int p2), .val (.int p3), .val (.int p4), .val (.int p5), .val (.int p6), .val (.int 2), .val (.int x1), .val (.int y1), .val (.int z1), .val (.int (Int32.ofNat n2)), .val (.int w1), .val (.ref au), .val (.ref av), .val (.ref bt), .val (.ref au), .val (.ref ai), .unset] [(.int x1)])
    refine oS (fun t k => XS.iload Xh2.here hx rfl (hb hby at_194) rfl  k) ?_
    show oG p e below _ Th2 (mkF m 196 #[.val (.int p1), .val (.int p2), .val (.int p3), .val (.int p4), .val (.int p5), .val (.int p6), .val (.int 2), .val (.int x1), .val (.int y1), .val (.int z1), .val (.int (Int32.ofNat n2)), .val (.int w1), .val (.ref au), .val (.ref av), .val (.ref bt), .val (.ref au), .val (.ref ai), .unset] [(.int x1), (.int x1)])
    refine oS (fun t k => XS.icmpYes Xh2.here hx rfl (pc0 := 196) (pc' := 201) rfl (hb hby at_196) rfl (teq (rfl : x1 = x1)).1 (by decide) (by decide) k) ?_
    show oG p e below _ Th2 (mkF m 201 #[.val (.int p1), .val (.int p2), .val (.int p3), .val (.int p4), .val (.int p5), .val (.int p6), .val (.int 2), .val (.int x1), .val (.int y1), .val (.int z1), .val (.int (Int32.ofNat n2)), .val (.int w1), .val (.ref au), .val (.ref av), .val (.ref bt), .val (.ref au), .val (.ref ai), .unset] [])
    refine oS (fun t k => XS.iload Xh2.here hx rfl (hb hby at_201) rfl  k) ?_
    refine oS (fun t k => XS.iconst Xh2.here hx rfl (hb hby at_203) k) ?_
    show oG p e below _ Th2 (mkF m 204 #[.val (.int p1), .val (.int p2), .val (.int p3), .val (.int p4), .val (.int p5), .val (.int p6), .val (.int 2), .val (.int x1), .val (.int y1), .val (.int z1), .val (.int (Int32.ofNat n2)), .val (.int w1), .val (.ref au), .val (.ref av), .val (.ref bt), .val (.ref au), .val (.ref ai), .unset] [(.int 2), (.int 2)])
    refine oS (fun t k => XS.icmpNo Xh2.here hx rfl (hb hby at_204) rfl (flt (by decide : ¬ (2 : Int32) < 2)).1 k) ?_
    show oG p e below _ Th2 (mkF m 207 #[.val (.int p1), .val (.int p2), .val (.int p3), .val (.int p4), .val (.int p5), .val (.int p6), .val (.int 2), .val (.int x1), .val (.int y1), .val (.int z1), .val (.int (Int32.ofNat n2)), .val (.int w1), .val (.ref au), .val (.ref av), .val (.ref bt), .val (.ref au), .val (.ref ai), .unset] [])
    refine oS (fun t k => XS.aload Xh2.here hx rfl (hb hby at_207) rfl rfl k) ?_
    refine oS (fun t k => XS.iconst Xh2.here hx rfl (hb hby at_209) k) ?_
    show oG p e below _ Th2 (mkF m 210 #[.val (.int p1), .val (.int p2), .val (.int p3), .val (.int p4), .val (.int p5), .val (.int p6), .val (.int 2), .val (.int x1), .val (.int y1), .val (.int z1), .val (.int (Int32.ofNat n2)), .val (.int w1), .val (.ref au), .val (.ref av), .val (.ref bt), .val (.ref au), .val (.ref ai), .unset] [(.int 3), (.ref ai)])
    refine own_callV Xh2 hx Ki.1 (y := (⟨"java/lang/String", "charAt", "(I)C"⟩ : MethodName)) (W := 0) (Q := (fun v h L => v = some (.int (((95 : Int32) :: (58 : Int32) :: ([x1, y1] : List Int32)).getD 3 0)) ∧ L = [] ∧ h = Ti.heap)) (kc := 0) (ks := 0) howni (oW hw 197 rfl) (oW hw 198 rfl) (oW hw 200 rfl) (oW hw 199 rfl) (StrChars.Road.chN (W := 0) (s := s.setVm Ti.vm) Ki.1 hch (kI := 4) (oW hw 5 rfl) LEi LVi LCi LAi hci (own_up hpi) SC hCS SF rFM (Nat.le_of_ble_eq_true rfl) (i := 3) (Nat.le_of_ble_eq_true rfl) (j := 3) rfl (by decide) (by decide)) (by decide) (b := ai) LEi (g := (mkF m 210 #[.val (.int p1), .val (.int p2), .val (.int p3), .val (.int p4), .val (.int p5), .val (.int p6), .val (.int 2), .val (.int x1), .val (.int y1), .val (.int z1), .val (.int (Int32.ofNat n2)), .val (.int w1), .val (.ref au), .val (.ref av), .val (.ref bt), .val (.ref au), .val (.ref ai), .unset] [(.int 3), (.ref ai)])) rfl (by rw [hml]; rfl) (argsL := [(.int 3)]) (rest := []) (lenOf pd_26 rfl) rfl (by show 2 * 0 + _ ≤ _; exact Nat.le_of_eq rfl) (hb hby at_210) rfl eh2 (by decide) (by decide) (fun vh3 Th3 Lh3 Xh3 hQh3 => ?_)
    obtain ⟨rfl, rfl, eh3⟩ := hQh3
    have Nh3 := Fr.app Nh2 (Fr.nil n0)
    show oG p e below _ Th3 (mkF m 213 #[.val (.int p1), .val (.int p2), .val (.int p3), .val (.int p4), .val (.int p5), .val (.int p6), .val (.int 2), .val (.int x1), .val (.int y1), .val (.int z1), .val (.int (Int32.ofNat n2)), .val (.int w1), .val (.ref au), .val (.ref av), .val (.ref bt), .val (.ref au), .val (.ref ai), .unset] [(.int y1)])
    refine oS (fun t k => XS.iload Xh3.here hx rfl (hb hby at_213) rfl  k) ?_
    show oG p e below _ Th3 (mkF m 215 #[.val (.int p1), .val (.int p2), .val (.int p3), .val (.int p4), .val (.int p5), .val (.int p6), .val (.int 2), .val (.int x1), .val (.int y1), .val (.int z1), .val (.int (Int32.ofNat n2)), .val (.int w1), .val (.ref au), .val (.ref av), .val (.ref bt), .val (.ref au), .val (.ref ai), .unset] [(.int y1), (.int y1)])
    refine oS (fun t k => XS.icmpYes Xh3.here hx rfl (pc0 := 215) (pc' := 220) rfl (hb hby at_215) rfl (teq (rfl : y1 = y1)).1 (by decide) (by decide) k) ?_
    show oG p e below _ Th3 (mkF m 220 #[.val (.int p1), .val (.int p2), .val (.int p3), .val (.int p4), .val (.int p5), .val (.int p6), .val (.int 2), .val (.int x1), .val (.int y1), .val (.int z1), .val (.int (Int32.ofNat n2)), .val (.int w1), .val (.ref au), .val (.ref av), .val (.ref bt), .val (.ref au), .val (.ref ai), .unset] [])
    refine oS (fun t k => XS.iload Xh3.here hx rfl (hb hby at_220) rfl  k) ?_
    refine oS (fun t k => XS.iconst Xh3.here hx rfl (hb hby at_222) k) ?_
    show oG p e below _ Th3 (mkF m 223 #[.val (.int p1), .val (.int p2), .val (.int p3), .val (.int p4), .val (.int p5), .val (.int p6), .val (.int 2), .val (.int x1), .val (.int y1), .val (.int z1), .val (.int (Int32.ofNat n2)), .val (.int w1), .val (.ref au), .val (.ref av), .val (.ref bt), .val (.ref au), .val (.ref ai), .unset] [(.int 3), (.int 2)])
    refine oS (fun t k => XS.icmpYes Xh3.here hx rfl (pc0 := 223) (pc' := 239) rfl (hb hby at_223) rfl (tlt (by decide : (2 : Int32) < 3)).1 (by decide) (by decide) k) ?_
    show oG p e below _ Th3 (mkF m 239 #[.val (.int p1), .val (.int p2), .val (.int p3), .val (.int p4), .val (.int p5), .val (.int p6), .val (.int 2), .val (.int x1), .val (.int y1), .val (.int z1), .val (.int (Int32.ofNat n2)), .val (.int w1), .val (.ref au), .val (.ref av), .val (.ref bt), .val (.ref au), .val (.ref ai), .unset] [])
    refine oS (fun t k => XS.iload Xh3.here hx rfl (hb hby at_239) rfl  k) ?_
    refine oS (fun t k => XS.iload Xh3.here hx rfl (hb hby at_241) rfl  k) ?_
    show oG p e below _ Th3 (mkF m 243 #[.val (.int p1), .val (.int p2), .val (.int p3), .val (.int p4), .val (.int p5), .val (.int p6), .val (.int 2), .val (.int x1), .val (.int y1), .val (.int z1), .val (.int (Int32.ofNat n2)), .val (.int w1), .val (.ref au), .val (.ref av), .val (.ref bt), .val (.ref au), .val (.ref ai), .unset] [(.int (Int32.ofNat n2)), (.int 2)])
    by_cases hnn : (2 : Int32) = (Int32.ofNat n2)
    · refine oS (fun t k => XS.icmpNo Xh3.here hx rfl (hb hby at_243) rfl (teq hnn).2 k) ?_
      show oG p e below _ Th3 (mkF m 246 #[.val (.int p1), .val (.int p2), .val (.int p3), .val (.int p4), .val (.int p5), .val (.int p6), .val (.int 2), .val (.int x1), .val (.int y1), .val (.int z1), .val (.int (Int32.ofNat n2)), .val (.int w1), .val (.ref au), .val (.ref av), .val (.ref bt), .val (.ref au), .val (.ref ai), .unset] [])
      refine oS (fun t k => XS.iload Xh3.here hx rfl (hb hby at_246) rfl  k) ?_
      refine oS (fun t k => XS.iconst Xh3.here hx rfl (hb hby at_248) k) ?_
      show oG p e below _ Th3 (mkF m 249 #[.val (.int p1), .val (.int p2), .val (.int p3), .val (.int p4), .val (.int p5), .val (.int p6), .val (.int 2), .val (.int x1), .val (.int y1), .val (.int z1), .val (.int (Int32.ofNat n2)), .val (.int w1), .val (.ref au), .val (.ref av), .val (.ref bt), .val (.ref au), .val (.ref ai), .unset] [(.int 3), (.int 2)])
      obtain rfl : 2 = n2 := own_ninj (by decide) hn2 hnn
      refine oS (fun t k => XS.icmpYes Xh3.here hx rfl (pc0 := 249) (pc' := 259) rfl (hb hby at_249) rfl (tlt (by decide : (2 : Int32) < 3)).1 (by decide) (by decide) k) ?_
      show oG p e below _ Th3 (mkF m 259 #[.val (.int p1), .val (.int p2), .val (.int p3), .val (.int p4), .val (.int p5), .val (.int p6), .val (.int 2), .val (.int x1), .val (.int y1), .val (.int z1), .val (.int 2), .val (.int w1), .val (.ref au), .val (.ref av), .val (.ref bt), .val (.ref au), .val (.ref ai), .unset] [])
      refine oS (fun t k => XS.iconst Xh3.here hx rfl (hb hby at_259) k) ?_
      refine oS (fun t k => XS.goto Xh3.here hx rfl (pc0 := 260) (pc' := 264) rfl (hb hby at_260) (by decide) (by decide) k) ?_
      show oG p e below _ Th3 (mkF m 264 #[.val (.int p1), .val (.int p2), .val (.int p3), .val (.int p4), .val (.int p5), .val (.int p6), .val (.int 2), .val (.int x1), .val (.int y1), .val (.int z1), .val (.int 2), .val (.int w1), .val (.ref au), .val (.ref av), .val (.ref bt), .val (.ref au), .val (.ref ai), .unset] [(.int 1)])
      refine oS (fun t k => XS.istore Xh3.here hx rfl (hb hby at_264) rfl (l' := #[.val (.int p1), .val (.int p2), .val (.int p3), .val (.int p4), .val (.int p5), .val (.int p6), .val (.int 2), .val (.int x1), .val (.int y1), .val (.int z1), .val (.int 2), .val (.int w1), .val (.ref au), .val (.ref av), .val (.ref bt), .val (.ref au), .val (.ref ai), .val (.int 1)]) rfl k) ?_
      show oG p e below _ Th3 (mkF m 266 #[.val (.int p1), .val (.int p2), .val (.int p3), .val (.int p4), .val (.int p5), .val (.int p6), .val (.int 2), .val (.int x1), .val (.int y1), .val (.int z1), .val (.int 2), .val (.int w1), .val (.ref au), .val (.ref av), .val (.ref bt), .val (.ref au), .val (.ref ai), .val (.int 1)] [])
      exact tail Th3 _ Xh3 eh3 Nh3 1 (by rw [if_pos (by rfl)])
    · refine oS (fun t k => XS.icmpYes Xh3.here hx rfl (pc0 := 243) (pc' := 263) rfl (hb hby at_243) rfl (feq hnn).2 (by decide) (by decide) k) ?_
      show oG p e below _ Th3 (mkF m 263 #[.val (.int p1), .val (.int p2), .val (.int p3), .val (.int p4), .val (.int p5), .val (.int p6), .val (.int 2), .val (.int x1), .val (.int y1), .val (.int z1), .val (.int (Int32.ofNat n2)), .val (.int w1), .val (.ref au), .val (.ref av), .val (.ref bt), .val (.ref au), .val (.ref ai), .unset] [])
      refine oS (fun t k => XS.iconst Xh3.here hx rfl (hb hby at_263) k) ?_
      refine oS (fun t k => XS.istore Xh3.here hx rfl (hb hby at_264) rfl (l' := #[.val (.int p1), .val (.int p2), .val (.int p3), .val (.int p4), .val (.int p5), .val (.int p6), .val (.int 2), .val (.int x1), .val (.int y1), .val (.int z1), .val (.int (Int32.ofNat n2)), .val (.int w1), .val (.ref au), .val (.ref av), .val (.ref bt), .val (.ref au), .val (.ref ai), .val (.int 0)]) rfl k) ?_
      show oG p e below _ Th3 (mkF m 266 #[.val (.int p1), .val (.int p2), .val (.int p3), .val (.int p4), .val (.int p5), .val (.int p6), .val (.int 2), .val (.int x1), .val (.int y1), .val (.int z1), .val (.int (Int32.ofNat n2)), .val (.int w1), .val (.ref au), .val (.ref av), .val (.ref bt), .val (.ref au), .val (.ref ai), .val (.int 0)] [])
      exact tail Th3 _ Xh3 eh3 Nh3 0 (by rw [if_neg (own_cneq (n := 2) hn1 hn2 hnn)])
  · show oG p e below _ Ti (mkF m 146 #[.val (.int p1), .val (.int p2), .val (.int p3), .val (.int p4), .val (.int p5), .val (.int p6), .val (.int 3), .val (.int x1), .val (.int y1), .val (.int z1), .val (.int (Int32.ofNat n2)), .val (.int w1), .val (.ref au), .val (.ref av), .val (.ref bt), .val (.ref au), .val (.ref ai), .unset] [(.ref ai)])
    have hpi : ∀ c ∈ ((95 : Int32) :: (58 : Int32) :: ([x1, y1, z1] : List Int32)), ¬ c < 0 ∧ ¬ (255 : Int32) < c := own_hp2 hp1
    obtain ⟨ui, kbi, LEi, LVi, LCi, LAi⟩ : own_Lat Z Ti.heap ai ((95 : Int32) :: (58 : Int32) :: ([x1, y1, z1] : List Int32)) := LI
    have hci : StrChars.Road.CodA ((95 : Int32) :: (58 : Int32) :: ([x1, y1, z1] : List Int32)) 0 (Int32.ofNat ((95 : Int32) :: (58 : Int32) :: ([x1, y1, z1] : List Int32)).length) ((((95 : Int32) :: (58 : Int32) :: ([x1, y1, z1] : List Int32)).map (fun c : Int32 => c.toInt8.toInt32)).map Value.int) := StrChars.Road.codOf rfl (fun x hx => (hpi x hx).2)
    refine own_callV Xi hx Ki.1 (y := (⟨"java/lang/String", "length", "()I"⟩ : MethodName)) (W := 0) (Q := (fun v h L => v = some (.int (Int32.ofNat ((95 : Int32) :: (58 : Int32) :: ([x1, y1, z1] : List Int32)).length)) ∧ L = [] ∧ h = Ti.heap)) (kc := 0) (ks := 0) howni (oW hw 196 rfl) (oW hw 114 rfl) (oW hw 116 rfl) (oW hw 115 rfl) (StrChars.Road.lenW (W := 0) (s := s.setVm Ti.vm) Ki.1 hln (kI := 4) (oW hw 5 rfl) LEi LVi LCi LAi hci (own_up hpi) SC hCS (Nat.le_of_ble_eq_true rfl) (by decide) (by decide)) (by decide) (b := ai) LEi (g := (mkF m 146 #[.val (.int p1), .val (.int p2), .val (.int p3), .val (.int p4), .val (.int p5), .val (.int p6), .val (.int 3), .val (.int x1), .val (.int y1), .val (.int z1), .val (.int (Int32.ofNat n2)), .val (.int w1), .val (.ref au), .val (.ref av), .val (.ref bt), .val (.ref au), .val (.ref ai), .unset] [(.ref ai)])) rfl (by rw [hml]; rfl) (argsL := []) (rest := []) (lenOf pd_8 rfl) rfl (by show 2 * 0 + _ ≤ _; exact Nat.le_of_eq rfl) (hb hby at_146) rfl rfl (by decide) (by decide) (fun vj Tj Lj Xj hQj => ?_)
    obtain ⟨rfl, rfl, ej⟩ := hQj
    have Nj := Fr.app Ni (Fr.nil n0)
    show oG p e below _ Tj (mkF m 149 #[.val (.int p1), .val (.int p2), .val (.int p3), .val (.int p4), .val (.int p5), .val (.int p6), .val (.int 3), .val (.int x1), .val (.int y1), .val (.int z1), .val (.int (Int32.ofNat n2)), .val (.int w1), .val (.ref au), .val (.ref av), .val (.ref bt), .val (.ref au), .val (.ref ai), .unset] [(.int 5)])
    refine oS (fun t k => XS.iload Xj.here hx rfl (hb hby at_149) rfl  k) ?_
    refine oS (fun t k => XS.iconst Xj.here hx rfl (hb hby at_151) k) ?_
    refine oS (fun t k => XS.iadd Xj.here hx rfl (hb hby at_152) rfl k) ?_
    show oG p e below _ Tj (mkF m 153 #[.val (.int p1), .val (.int p2), .val (.int p3), .val (.int p4), .val (.int p5), .val (.int p6), .val (.int 3), .val (.int x1), .val (.int y1), .val (.int z1), .val (.int (Int32.ofNat n2)), .val (.int w1), .val (.ref au), .val (.ref av), .val (.ref bt), .val (.ref au), .val (.ref ai), .unset] [(.int ((3 : Int32) + (2 : Int32))), (.int 5)])
    refine oS (fun t k => XS.icmpYes Xj.here hx rfl (pc0 := 153) (pc' := 158) rfl (hb hby at_153) rfl (teq (by decide : (5 : Int32) = (3 : Int32) + 2)).1 (by decide) (by decide) k) ?_
    show oG p e below _ Tj (mkF m 158 #[.val (.int p1), .val (.int p2), .val (.int p3), .val (.int p4), .val (.int p5), .val (.int p6), .val (.int 3), .val (.int x1), .val (.int y1), .val (.int z1), .val (.int (Int32.ofNat n2)), .val (.int w1), .val (.ref au), .val (.ref av), .val (.ref bt), .val (.ref au), .val (.ref ai), .unset] [])
    refine oS (fun t k => XS.aload Xj.here hx rfl (hb hby at_158) rfl rfl k) ?_
    refine oS (fun t k => XS.iconst Xj.here hx rfl (hb hby at_160) k) ?_
    show oG p e below _ Tj (mkF m 161 #[.val (.int p1), .val (.int p2), .val (.int p3), .val (.int p4), .val (.int p5), .val (.int p6), .val (.int 3), .val (.int x1), .val (.int y1), .val (.int z1), .val (.int (Int32.ofNat n2)), .val (.int w1), .val (.ref au), .val (.ref av), .val (.ref bt), .val (.ref au), .val (.ref ai), .unset] [(.int 0), (.ref ai)])
    refine own_callV Xj hx Ki.1 (y := (⟨"java/lang/String", "charAt", "(I)C"⟩ : MethodName)) (W := 0) (Q := (fun v h L => v = some (.int (((95 : Int32) :: (58 : Int32) :: ([x1, y1, z1] : List Int32)).getD 0 0)) ∧ L = [] ∧ h = Ti.heap)) (kc := 0) (ks := 0) howni (oW hw 197 rfl) (oW hw 198 rfl) (oW hw 200 rfl) (oW hw 199 rfl) (StrChars.Road.chN (W := 0) (s := s.setVm Ti.vm) Ki.1 hch (kI := 4) (oW hw 5 rfl) LEi LVi LCi LAi hci (own_up hpi) SC hCS SF rFM (Nat.le_of_ble_eq_true rfl) (i := 0) (Nat.le_of_ble_eq_true rfl) (j := 0) rfl (by decide) (by decide)) (by decide) (b := ai) LEi (g := (mkF m 161 #[.val (.int p1), .val (.int p2), .val (.int p3), .val (.int p4), .val (.int p5), .val (.int p6), .val (.int 3), .val (.int x1), .val (.int y1), .val (.int z1), .val (.int (Int32.ofNat n2)), .val (.int w1), .val (.ref au), .val (.ref av), .val (.ref bt), .val (.ref au), .val (.ref ai), .unset] [(.int 0), (.ref ai)])) rfl (by rw [hml]; rfl) (argsL := [(.int 0)]) (rest := []) (lenOf pd_26 rfl) rfl (by show 2 * 0 + _ ≤ _; exact Nat.le_of_eq rfl) (hb hby at_161) rfl ej (by decide) (by decide) (fun vh0 Th0 Lh0 Xh0 hQh0 => ?_)
    obtain ⟨rfl, rfl, eh0⟩ := hQh0
    have Nh0 := Fr.app Nj (Fr.nil n0)
    show oG p e below _ Th0 (mkF m 164 #[.val (.int p1), .val (.int p2), .val (.int p3), .val (.int p4), .val (.int p5), .val (.int p6), .val (.int 3), .val (.int x1), .val (.int y1), .val (.int z1), .val (.int (Int32.ofNat n2)), .val (.int w1), .val (.ref au), .val (.ref av), .val (.ref bt), .val (.ref au), .val (.ref ai), .unset] [(.int 95)])
    refine oS (fun t k => XS.bipush Xh0.here hx rfl (hb hby at_164) k) ?_
    show oG p e below _ Th0 (mkF m 166 #[.val (.int p1), .val (.int p2), .val (.int p3), .val (.int p4), .val (.int p5), .val (.int p6), .val (.int 3), .val (.int x1), .val (.int y1), .val (.int z1), .val (.int (Int32.ofNat n2)), .val (.int w1), .val (.ref au), .val (.ref av), .val (.ref bt), .val (.ref au), .val (.ref ai), .unset] [(.int 95), (.int 95)])
    refine oS (fun t k => XS.icmpNo Xh0.here hx rfl (hb hby at_166) rfl (teq (rfl : (95 : Int32) = 95)).2 k) ?_
    show oG p e below _ Th0 (mkF m 169 #[.val (.int p1), .val (.int p2), .val (.int p3), .val (.int p4), .val (.int p5), .val (.int p6), .val (.int 3), .val (.int x1), .val (.int y1), .val (.int z1), .val (.int (Int32.ofNat n2)), .val (.int w1), .val (.ref au), .val (.ref av), .val (.ref bt), .val (.ref au), .val (.ref ai), .unset] [])
    refine oS (fun t k => XS.aload Xh0.here hx rfl (hb hby at_169) rfl rfl k) ?_
    refine oS (fun t k => XS.iconst Xh0.here hx rfl (hb hby at_171) k) ?_
    show oG p e below _ Th0 (mkF m 172 #[.val (.int p1), .val (.int p2), .val (.int p3), .val (.int p4), .val (.int p5), .val (.int p6), .val (.int 3), .val (.int x1), .val (.int y1), .val (.int z1), .val (.int (Int32.ofNat n2)), .val (.int w1), .val (.ref au), .val (.ref av), .val (.ref bt), .val (.ref au), .val (.ref ai), .unset] [(.int 1), (.ref ai)])
    refine own_callV Xh0 hx Ki.1 (y := (⟨"java/lang/String", "charAt", "(I)C"⟩ : MethodName)) (W := 0) (Q := (fun v h L => v = some (.int (((95 : Int32) :: (58 : Int32) :: ([x1, y1, z1] : List Int32)).getD 1 0)) ∧ L = [] ∧ h = Ti.heap)) (kc := 0) (ks := 0) howni (oW hw 197 rfl) (oW hw 198 rfl) (oW hw 200 rfl) (oW hw 199 rfl) (StrChars.Road.chN (W := 0) (s := s.setVm Ti.vm) Ki.1 hch (kI := 4) (oW hw 5 rfl) LEi LVi LCi LAi hci (own_up hpi) SC hCS SF rFM (Nat.le_of_ble_eq_true rfl) (i := 1) (Nat.le_of_ble_eq_true rfl) (j := 1) rfl (by decide) (by decide)) (by decide) (b := ai) LEi (g := (mkF m 172 #[.val (.int p1), .val (.int p2), .val (.int p3), .val (.int p4), .val (.int p5), .val (.int p6), .val (.int 3), .val (.int x1), .val (.int y1), .val (.int z1), .val (.int (Int32.ofNat n2)), .val (.int w1), .val (.ref au), .val (.ref av), .val (.ref bt), .val (.ref au), .val (.ref ai), .unset] [(.int 1), (.ref ai)])) rfl (by rw [hml]; rfl) (argsL := [(.int 1)]) (rest := []) (lenOf pd_26 rfl) rfl (by show 2 * 0 + _ ≤ _; exact Nat.le_of_eq rfl) (hb hby at_172) rfl eh0 (by decide) (by decide) (fun vh1 Th1 Lh1 Xh1 hQh1 => ?_)
    obtain ⟨rfl, rfl, eh1⟩ := hQh1
    have Nh1 := Fr.app Nh0 (Fr.nil n0)
    show oG p e below _ Th1 (mkF m 175 #[.val (.int p1), .val (.int p2), .val (.int p3), .val (.int p4), .val (.int p5), .val (.int p6), .val (.int 3), .val (.int x1), .val (.int y1), .val (.int z1), .val (.int (Int32.ofNat n2)), .val (.int w1), .val (.ref au), .val (.ref av), .val (.ref bt), .val (.ref au), .val (.ref ai), .unset] [(.int 58)])
    refine oS (fun t k => XS.bipush Xh1.here hx rfl (hb hby at_175) k) ?_
    show oG p e below _ Th1 (mkF m 177 #[.val (.int p1), .val (.int p2), .val (.int p3), .val (.int p4), .val (.int p5), .val (.int p6), .val (.int 3), .val (.int x1), .val (.int y1), .val (.int z1), .val (.int (Int32.ofNat n2)), .val (.int w1), .val (.ref au), .val (.ref av), .val (.ref bt), .val (.ref au), .val (.ref ai), .unset] [(.int 58), (.int 58)])
    refine oS (fun t k => XS.icmpYes Xh1.here hx rfl (pc0 := 177) (pc' := 182) rfl (hb hby at_177) rfl (teq (rfl : (58 : Int32) = 58)).1 (by decide) (by decide) k) ?_
    show oG p e below _ Th1 (mkF m 182 #[.val (.int p1), .val (.int p2), .val (.int p3), .val (.int p4), .val (.int p5), .val (.int p6), .val (.int 3), .val (.int x1), .val (.int y1), .val (.int z1), .val (.int (Int32.ofNat n2)), .val (.int w1), .val (.ref au), .val (.ref av), .val (.ref bt), .val (.ref au), .val (.ref ai), .unset] [])
    refine oS (fun t k => XS.iload Xh1.here hx rfl (hb hby at_182) rfl  k) ?_
    refine oS (fun t k => XS.iconst Xh1.here hx rfl (hb hby at_184) k) ?_
    show oG p e below _ Th1 (mkF m 185 #[.val (.int p1), .val (.int p2), .val (.int p3), .val (.int p4), .val (.int p5), .val (.int p6), .val (.int 3), .val (.int x1), .val (.int y1), .val (.int z1), .val (.int (Int32.ofNat n2)), .val (.int w1), .val (.ref au), .val (.ref av), .val (.ref bt), .val (.ref au), .val (.ref ai), .unset] [(.int 1), (.int 3)])
    refine oS (fun t k => XS.icmpNo Xh1.here hx rfl (hb hby at_185) rfl (flt (by decide : ¬ (3 : Int32) < 1)).1 k) ?_
    show oG p e below _ Th1 (mkF m 188 #[.val (.int p1), .val (.int p2), .val (.int p3), .val (.int p4), .val (.int p5), .val (.int p6), .val (.int 3), .val (.int x1), .val (.int y1), .val (.int z1), .val (.int (Int32.ofNat n2)), .val (.int w1), .val (.ref au), .val (.ref av), .val (.ref bt), .val (.ref au), .val (.ref ai), .unset] [])
    refine oS (fun t k => XS.aload Xh1.here hx rfl (hb hby at_188) rfl rfl k) ?_
    refine oS (fun t k => XS.iconst Xh1.here hx rfl (hb hby at_190) k) ?_
    show oG p e below _ Th1 (mkF m 191 #[.val (.int p1), .val (.int p2), .val (.int p3), .val (.int p4), .val (.int p5), .val (.int p6), .val (.int 3), .val (.int x1), .val (.int y1), .val (.int z1), .val (.int (Int32.ofNat n2)), .val (.int w1), .val (.ref au), .val (.ref av), .val (.ref bt), .val (.ref au), .val (.ref ai), .unset] [(.int 2), (.ref ai)])
    refine own_callV Xh1 hx Ki.1 (y := (⟨"java/lang/String", "charAt", "(I)C"⟩ : MethodName)) (W := 0) (Q := (fun v h L => v = some (.int (((95 : Int32) :: (58 : Int32) :: ([x1, y1, z1] : List Int32)).getD 2 0)) ∧ L = [] ∧ h = Ti.heap)) (kc := 0) (ks := 0) howni (oW hw 197 rfl) (oW hw 198 rfl) (oW hw 200 rfl) (oW hw 199 rfl) (StrChars.Road.chN (W := 0) (s := s.setVm Ti.vm) Ki.1 hch (kI := 4) (oW hw 5 rfl) LEi LVi LCi LAi hci (own_up hpi) SC hCS SF rFM (Nat.le_of_ble_eq_true rfl) (i := 2) (Nat.le_of_ble_eq_true rfl) (j := 2) rfl (by decide) (by decide)) (by decide) (b := ai) LEi (g := (mkF m 191 #[.val (.int p1), .val (.int p2), .val (.int p3), .val (.int p4), .val (.int p5), .val (.int p6), .val (.int 3), .val (.int x1), .val (.int y1), .val (.int z1), .val (.int (Int32.ofNat n2)), .val (.int w1), .val (.ref au), .val (.ref av), .val (.ref bt), .val (.ref au), .val (.ref ai), .unset] [(.int 2), (.ref ai)])) rfl (by rw [hml]; rfl) (argsL := [(.int 2)]) (rest := []) (lenOf pd_26 rfl) rfl (by show 2 * 0 + _ ≤ _; exact Nat.le_of_eq rfl) (hb hby at_191) rfl eh1 (by decide) (by decide) (fun vh2 Th2 Lh2 Xh2 hQh2 => ?_)
    obtain ⟨rfl, rfl, eh2⟩ := hQh2
    have Nh2 := Fr.app Nh1 (Fr.nil n0)
    show oG p e below _ Th2 (mkF m 194 #[.val (.int p1), .val (.int p2), .val (.int p3), .val (.int p4), .val (.int p5), .val (.int p6), .val (.int 3), .val (.int x1), .val (.int y1), .val (.int z1), .val (.int (Int32.ofNat n2)), .val (.int w1), .val (.ref au), .val (.ref av), .val (.ref bt), .val (.ref au), .val (.ref ai), .unset] [(.int x1)])
    refine oS (fun t k => XS.iload Xh2.here hx rfl (hb hby at_194) rfl  k) ?_
    show oG p e below _ Th2 (mkF m 196 #[.val (.int p1), .val (.int p2), .val (.int p3), .val (.int p4), .val (.int p5), .val (.int p6), .val (.int 3), .val (.int x1), .val (.int y1), .val (.int z1), .val (.int (Int32.ofNat n2)), .val (.int w1), .val (.ref au), .val (.ref av), .val (.ref bt), .val (.ref au), .val (.ref ai), .unset] [(.int x1), (.int x1)])
    refine oS (fun t k => XS.icmpYes Xh2.here hx rfl (pc0 := 196) (pc' := 201) rfl (hb hby at_196) rfl (teq (rfl : x1 = x1)).1 (by decide) (by decide) k) ?_
    show oG p e below _ Th2 (mkF m 201 #[.val (.int p1), .val (.int p2), .val (.int p3), .val (.int p4), .val (.int p5), .val (.int p6), .val (.int 3), .val (.int x1), .val (.int y1), .val (.int z1), .val (.int (Int32.ofNat n2)), .val (.int w1), .val (.ref au), .val (.ref av), .val (.ref bt), .val (.ref au), .val (.ref ai), .unset] [])
    refine oS (fun t k => XS.iload Xh2.here hx rfl (hb hby at_201) rfl  k) ?_
    refine oS (fun t k => XS.iconst Xh2.here hx rfl (hb hby at_203) k) ?_
    show oG p e below _ Th2 (mkF m 204 #[.val (.int p1), .val (.int p2), .val (.int p3), .val (.int p4), .val (.int p5), .val (.int p6), .val (.int 3), .val (.int x1), .val (.int y1), .val (.int z1), .val (.int (Int32.ofNat n2)), .val (.int w1), .val (.ref au), .val (.ref av), .val (.ref bt), .val (.ref au), .val (.ref ai), .unset] [(.int 2), (.int 3)])
    refine oS (fun t k => XS.icmpNo Xh2.here hx rfl (hb hby at_204) rfl (flt (by decide : ¬ (3 : Int32) < 2)).1 k) ?_
    show oG p e below _ Th2 (mkF m 207 #[.val (.int p1), .val (.int p2), .val (.int p3), .val (.int p4), .val (.int p5), .val (.int p6), .val (.int 3), .val (.int x1), .val (.int y1), .val (.int z1), .val (.int (Int32.ofNat n2)), .val (.int w1), .val (.ref au), .val (.ref av), .val (.ref bt), .val (.ref au), .val (.ref ai), .unset] [])
    refine oS (fun t k => XS.aload Xh2.here hx rfl (hb hby at_207) rfl rfl k) ?_
    refine oS (fun t k => XS.iconst Xh2.here hx rfl (hb hby at_209) k) ?_
    show oG p e below _ Th2 (mkF m 210 #[.val (.int p1), .val (.int p2), .val (.int p3), .val (.int p4), .val (.int p5), .val (.int p6), .val (.int 3), .val (.int x1), .val (.int y1), .val (.int z1), .val (.int (Int32.ofNat n2)), .val (.int w1), .val (.ref au), .val (.ref av), .val (.ref bt), .val (.ref au), .val (.ref ai), .unset] [(.int 3), (.ref ai)])
    refine own_callV Xh2 hx Ki.1 (y := (⟨"java/lang/String", "charAt", "(I)C"⟩ : MethodName)) (W := 0) (Q := (fun v h L => v = some (.int (((95 : Int32) :: (58 : Int32) :: ([x1, y1, z1] : List Int32)).getD 3 0)) ∧ L = [] ∧ h = Ti.heap)) (kc := 0) (ks := 0) howni (oW hw 197 rfl) (oW hw 198 rfl) (oW hw 200 rfl) (oW hw 199 rfl) (StrChars.Road.chN (W := 0) (s := s.setVm Ti.vm) Ki.1 hch (kI := 4) (oW hw 5 rfl) LEi LVi LCi LAi hci (own_up hpi) SC hCS SF rFM (Nat.le_of_ble_eq_true rfl) (i := 3) (Nat.le_of_ble_eq_true rfl) (j := 3) rfl (by decide) (by decide)) (by decide) (b := ai) LEi (g := (mkF m 210 #[.val (.int p1), .val (.int p2), .val (.int p3), .val (.int p4), .val (.int p5), .val (.int p6), .val (.int 3), .val (.int x1), .val (.int y1), .val (.int z1), .val (.int (Int32.ofNat n2)), .val (.int w1), .val (.ref au), .val (.ref av), .val (.ref bt), .val (.ref au), .val (.ref ai), .unset] [(.int 3), (.ref ai)])) rfl (by rw [hml]; rfl) (argsL := [(.int 3)]) (rest := []) (lenOf pd_26 rfl) rfl (by show 2 * 0 + _ ≤ _; exact Nat.le_of_eq rfl) (hb hby at_210) rfl eh2 (by decide) (by decide) (fun vh3 Th3 Lh3 Xh3 hQh3 => ?_)
    obtain ⟨rfl, rfl, eh3⟩ := hQh3
    have Nh3 := Fr.app Nh2 (Fr.nil n0)
    show oG p e below _ Th3 (mkF m 213 #[.val (.int p1), .val (.int p2), .val (.int p3), .val (.int p4), .val (.int p5), .val (.int p6), .val (.int 3), .val (.int x1), .val (.int y1), .val (.int z1), .val (.int (Int32.ofNat n2)), .val (.int w1), .val (.ref au), .val (.ref av), .val (.ref bt), .val (.ref au), .val (.ref ai), .unset] [(.int y1)])
    refine oS (fun t k => XS.iload Xh3.here hx rfl (hb hby at_213) rfl  k) ?_
    show oG p e below _ Th3 (mkF m 215 #[.val (.int p1), .val (.int p2), .val (.int p3), .val (.int p4), .val (.int p5), .val (.int p6), .val (.int 3), .val (.int x1), .val (.int y1), .val (.int z1), .val (.int (Int32.ofNat n2)), .val (.int w1), .val (.ref au), .val (.ref av), .val (.ref bt), .val (.ref au), .val (.ref ai), .unset] [(.int y1), (.int y1)])
    refine oS (fun t k => XS.icmpYes Xh3.here hx rfl (pc0 := 215) (pc' := 220) rfl (hb hby at_215) rfl (teq (rfl : y1 = y1)).1 (by decide) (by decide) k) ?_
    show oG p e below _ Th3 (mkF m 220 #[.val (.int p1), .val (.int p2), .val (.int p3), .val (.int p4), .val (.int p5), .val (.int p6), .val (.int 3), .val (.int x1), .val (.int y1), .val (.int z1), .val (.int (Int32.ofNat n2)), .val (.int w1), .val (.ref au), .val (.ref av), .val (.ref bt), .val (.ref au), .val (.ref ai), .unset] [])
    refine oS (fun t k => XS.iload Xh3.here hx rfl (hb hby at_220) rfl  k) ?_
    refine oS (fun t k => XS.iconst Xh3.here hx rfl (hb hby at_222) k) ?_
    show oG p e below _ Th3 (mkF m 223 #[.val (.int p1), .val (.int p2), .val (.int p3), .val (.int p4), .val (.int p5), .val (.int p6), .val (.int 3), .val (.int x1), .val (.int y1), .val (.int z1), .val (.int (Int32.ofNat n2)), .val (.int w1), .val (.ref au), .val (.ref av), .val (.ref bt), .val (.ref au), .val (.ref ai), .unset] [(.int 3), (.int 3)])
    refine oS (fun t k => XS.icmpNo Xh3.here hx rfl (hb hby at_223) rfl (flt (by decide : ¬ (3 : Int32) < 3)).1 k) ?_
    show oG p e below _ Th3 (mkF m 226 #[.val (.int p1), .val (.int p2), .val (.int p3), .val (.int p4), .val (.int p5), .val (.int p6), .val (.int 3), .val (.int x1), .val (.int y1), .val (.int z1), .val (.int (Int32.ofNat n2)), .val (.int w1), .val (.ref au), .val (.ref av), .val (.ref bt), .val (.ref au), .val (.ref ai), .unset] [])
    refine oS (fun t k => XS.aload Xh3.here hx rfl (hb hby at_226) rfl rfl k) ?_
    refine oS (fun t k => XS.iconst Xh3.here hx rfl (hb hby at_228) k) ?_
    show oG p e below _ Th3 (mkF m 229 #[.val (.int p1), .val (.int p2), .val (.int p3), .val (.int p4), .val (.int p5), .val (.int p6), .val (.int 3), .val (.int x1), .val (.int y1), .val (.int z1), .val (.int (Int32.ofNat n2)), .val (.int w1), .val (.ref au), .val (.ref av), .val (.ref bt), .val (.ref au), .val (.ref ai), .unset] [(.int 4), (.ref ai)])
    refine own_callV Xh3 hx Ki.1 (y := (⟨"java/lang/String", "charAt", "(I)C"⟩ : MethodName)) (W := 0) (Q := (fun v h L => v = some (.int (((95 : Int32) :: (58 : Int32) :: ([x1, y1, z1] : List Int32)).getD 4 0)) ∧ L = [] ∧ h = Ti.heap)) (kc := 0) (ks := 0) howni (oW hw 197 rfl) (oW hw 198 rfl) (oW hw 200 rfl) (oW hw 199 rfl) (StrChars.Road.chN (W := 0) (s := s.setVm Ti.vm) Ki.1 hch (kI := 4) (oW hw 5 rfl) LEi LVi LCi LAi hci (own_up hpi) SC hCS SF rFM (Nat.le_of_ble_eq_true rfl) (i := 4) (Nat.le_of_ble_eq_true rfl) (j := 4) rfl (by decide) (by decide)) (by decide) (b := ai) LEi (g := (mkF m 229 #[.val (.int p1), .val (.int p2), .val (.int p3), .val (.int p4), .val (.int p5), .val (.int p6), .val (.int 3), .val (.int x1), .val (.int y1), .val (.int z1), .val (.int (Int32.ofNat n2)), .val (.int w1), .val (.ref au), .val (.ref av), .val (.ref bt), .val (.ref au), .val (.ref ai), .unset] [(.int 4), (.ref ai)])) rfl (by rw [hml]; rfl) (argsL := [(.int 4)]) (rest := []) (lenOf pd_26 rfl) rfl (by show 2 * 0 + _ ≤ _; exact Nat.le_of_eq rfl) (hb hby at_229) rfl eh3 (by decide) (by decide) (fun vh4 Th4 Lh4 Xh4 hQh4 => ?_)
    obtain ⟨rfl, rfl, eh4⟩ := hQh4
    have Nh4 := Fr.app Nh3 (Fr.nil n0)
    show oG p e below _ Th4 (mkF m 232 #[.val (.int p1), .val (.int p2), .val (.int p3), .val (.int p4), .val (.int p5), .val (.int p6), .val (.int 3), .val (.int x1), .val (.int y1), .val (.int z1), .val (.int (Int32.ofNat n2)), .val (.int w1), .val (.ref au), .val (.ref av), .val (.ref bt), .val (.ref au), .val (.ref ai), .unset] [(.int z1)])
    refine oS (fun t k => XS.iload Xh4.here hx rfl (hb hby at_232) rfl  k) ?_
    show oG p e below _ Th4 (mkF m 234 #[.val (.int p1), .val (.int p2), .val (.int p3), .val (.int p4), .val (.int p5), .val (.int p6), .val (.int 3), .val (.int x1), .val (.int y1), .val (.int z1), .val (.int (Int32.ofNat n2)), .val (.int w1), .val (.ref au), .val (.ref av), .val (.ref bt), .val (.ref au), .val (.ref ai), .unset] [(.int z1), (.int z1)])
    refine oS (fun t k => XS.icmpYes Xh4.here hx rfl (pc0 := 234) (pc' := 239) rfl (hb hby at_234) rfl (teq (rfl : z1 = z1)).1 (by decide) (by decide) k) ?_
    show oG p e below _ Th4 (mkF m 239 #[.val (.int p1), .val (.int p2), .val (.int p3), .val (.int p4), .val (.int p5), .val (.int p6), .val (.int 3), .val (.int x1), .val (.int y1), .val (.int z1), .val (.int (Int32.ofNat n2)), .val (.int w1), .val (.ref au), .val (.ref av), .val (.ref bt), .val (.ref au), .val (.ref ai), .unset] [])
    refine oS (fun t k => XS.iload Xh4.here hx rfl (hb hby at_239) rfl  k) ?_
    refine oS (fun t k => XS.iload Xh4.here hx rfl (hb hby at_241) rfl  k) ?_
    show oG p e below _ Th4 (mkF m 243 #[.val (.int p1), .val (.int p2), .val (.int p3), .val (.int p4), .val (.int p5), .val (.int p6), .val (.int 3), .val (.int x1), .val (.int y1), .val (.int z1), .val (.int (Int32.ofNat n2)), .val (.int w1), .val (.ref au), .val (.ref av), .val (.ref bt), .val (.ref au), .val (.ref ai), .unset] [(.int (Int32.ofNat n2)), (.int 3)])
    by_cases hnn : (3 : Int32) = (Int32.ofNat n2)
    · refine oS (fun t k => XS.icmpNo Xh4.here hx rfl (hb hby at_243) rfl (teq hnn).2 k) ?_
      show oG p e below _ Th4 (mkF m 246 #[.val (.int p1), .val (.int p2), .val (.int p3), .val (.int p4), .val (.int p5), .val (.int p6), .val (.int 3), .val (.int x1), .val (.int y1), .val (.int z1), .val (.int (Int32.ofNat n2)), .val (.int w1), .val (.ref au), .val (.ref av), .val (.ref bt), .val (.ref au), .val (.ref ai), .unset] [])
      refine oS (fun t k => XS.iload Xh4.here hx rfl (hb hby at_246) rfl  k) ?_
      refine oS (fun t k => XS.iconst Xh4.here hx rfl (hb hby at_248) k) ?_
      show oG p e below _ Th4 (mkF m 249 #[.val (.int p1), .val (.int p2), .val (.int p3), .val (.int p4), .val (.int p5), .val (.int p6), .val (.int 3), .val (.int x1), .val (.int y1), .val (.int z1), .val (.int (Int32.ofNat n2)), .val (.int w1), .val (.ref au), .val (.ref av), .val (.ref bt), .val (.ref au), .val (.ref ai), .unset] [(.int 3), (.int 3)])
      obtain rfl : 3 = n2 := own_ninj (by decide) hn2 hnn
      refine oS (fun t k => XS.icmpNo Xh4.here hx rfl (hb hby at_249) rfl (flt (by decide : ¬ (3 : Int32) < 3)).1 k) ?_
      show oG p e below _ Th4 (mkF m 252 #[.val (.int p1), .val (.int p2), .val (.int p3), .val (.int p4), .val (.int p5), .val (.int p6), .val (.int 3), .val (.int x1), .val (.int y1), .val (.int z1), .val (.int 3), .val (.int w1), .val (.ref au), .val (.ref av), .val (.ref bt), .val (.ref au), .val (.ref ai), .unset] [])
      refine oS (fun t k => XS.iload Xh4.here hx rfl (hb hby at_252) rfl  k) ?_
      refine oS (fun t k => XS.iload Xh4.here hx rfl (hb hby at_254) rfl  k) ?_
      show oG p e below _ Th4 (mkF m 256 #[.val (.int p1), .val (.int p2), .val (.int p3), .val (.int p4), .val (.int p5), .val (.int p6), .val (.int 3), .val (.int x1), .val (.int y1), .val (.int z1), .val (.int 3), .val (.int w1), .val (.ref au), .val (.ref av), .val (.ref bt), .val (.ref au), .val (.ref ai), .unset] [(.int w1), (.int z1)])
      by_cases hzw : z1 = w1
      · refine oS (fun t k => XS.icmpNo Xh4.here hx rfl (hb hby at_256) rfl (teq hzw).2 k) ?_
        show oG p e below _ Th4 (mkF m 259 #[.val (.int p1), .val (.int p2), .val (.int p3), .val (.int p4), .val (.int p5), .val (.int p6), .val (.int 3), .val (.int x1), .val (.int y1), .val (.int z1), .val (.int 3), .val (.int w1), .val (.ref au), .val (.ref av), .val (.ref bt), .val (.ref au), .val (.ref ai), .unset] [])
        refine oS (fun t k => XS.iconst Xh4.here hx rfl (hb hby at_259) k) ?_
        refine oS (fun t k => XS.goto Xh4.here hx rfl (pc0 := 260) (pc' := 264) rfl (hb hby at_260) (by decide) (by decide) k) ?_
        show oG p e below _ Th4 (mkF m 264 #[.val (.int p1), .val (.int p2), .val (.int p3), .val (.int p4), .val (.int p5), .val (.int p6), .val (.int 3), .val (.int x1), .val (.int y1), .val (.int z1), .val (.int 3), .val (.int w1), .val (.ref au), .val (.ref av), .val (.ref bt), .val (.ref au), .val (.ref ai), .unset] [(.int 1)])
        refine oS (fun t k => XS.istore Xh4.here hx rfl (hb hby at_264) rfl (l' := #[.val (.int p1), .val (.int p2), .val (.int p3), .val (.int p4), .val (.int p5), .val (.int p6), .val (.int 3), .val (.int x1), .val (.int y1), .val (.int z1), .val (.int 3), .val (.int w1), .val (.ref au), .val (.ref av), .val (.ref bt), .val (.ref au), .val (.ref ai), .val (.int 1)]) rfl k) ?_
        show oG p e below _ Th4 (mkF m 266 #[.val (.int p1), .val (.int p2), .val (.int p3), .val (.int p4), .val (.int p5), .val (.int p6), .val (.int 3), .val (.int x1), .val (.int y1), .val (.int z1), .val (.int 3), .val (.int w1), .val (.ref au), .val (.ref av), .val (.ref bt), .val (.ref au), .val (.ref ai), .val (.int 1)] [])
        exact tail Th4 _ Xh4 eh4 Nh4 1 (by rw [if_pos (by rw [hzw])])
      · refine oS (fun t k => XS.icmpYes Xh4.here hx rfl (pc0 := 256) (pc' := 263) rfl (hb hby at_256) rfl (feq hzw).2 (by decide) (by decide) k) ?_
        show oG p e below _ Th4 (mkF m 263 #[.val (.int p1), .val (.int p2), .val (.int p3), .val (.int p4), .val (.int p5), .val (.int p6), .val (.int 3), .val (.int x1), .val (.int y1), .val (.int z1), .val (.int 3), .val (.int w1), .val (.ref au), .val (.ref av), .val (.ref bt), .val (.ref au), .val (.ref ai), .unset] [])
        refine oS (fun t k => XS.iconst Xh4.here hx rfl (hb hby at_263) k) ?_
        refine oS (fun t k => XS.istore Xh4.here hx rfl (hb hby at_264) rfl (l' := #[.val (.int p1), .val (.int p2), .val (.int p3), .val (.int p4), .val (.int p5), .val (.int p6), .val (.int 3), .val (.int x1), .val (.int y1), .val (.int z1), .val (.int 3), .val (.int w1), .val (.ref au), .val (.ref av), .val (.ref bt), .val (.ref au), .val (.ref ai), .val (.int 0)]) rfl k) ?_
        show oG p e below _ Th4 (mkF m 266 #[.val (.int p1), .val (.int p2), .val (.int p3), .val (.int p4), .val (.int p5), .val (.int p6), .val (.int 3), .val (.int x1), .val (.int y1), .val (.int z1), .val (.int 3), .val (.int w1), .val (.ref au), .val (.ref av), .val (.ref bt), .val (.ref au), .val (.ref ai), .val (.int 0)] [])
        exact tail Th4 _ Xh4 eh4 Nh4 0 (by rw [if_neg (by simp [own_cs, hzw])])
    · refine oS (fun t k => XS.icmpYes Xh4.here hx rfl (pc0 := 243) (pc' := 263) rfl (hb hby at_243) rfl (feq hnn).2 (by decide) (by decide) k) ?_
      show oG p e below _ Th4 (mkF m 263 #[.val (.int p1), .val (.int p2), .val (.int p3), .val (.int p4), .val (.int p5), .val (.int p6), .val (.int 3), .val (.int x1), .val (.int y1), .val (.int z1), .val (.int (Int32.ofNat n2)), .val (.int w1), .val (.ref au), .val (.ref av), .val (.ref bt), .val (.ref au), .val (.ref ai), .unset] [])
      refine oS (fun t k => XS.iconst Xh4.here hx rfl (hb hby at_263) k) ?_
      refine oS (fun t k => XS.istore Xh4.here hx rfl (hb hby at_264) rfl (l' := #[.val (.int p1), .val (.int p2), .val (.int p3), .val (.int p4), .val (.int p5), .val (.int p6), .val (.int 3), .val (.int x1), .val (.int y1), .val (.int z1), .val (.int (Int32.ofNat n2)), .val (.int w1), .val (.ref au), .val (.ref av), .val (.ref bt), .val (.ref au), .val (.ref ai), .val (.int 0)]) rfl k) ?_
      show oG p e below _ Th4 (mkF m 266 #[.val (.int p1), .val (.int p2), .val (.int p3), .val (.int p4), .val (.int p5), .val (.int p6), .val (.int 3), .val (.int x1), .val (.int y1), .val (.int z1), .val (.int (Int32.ofNat n2)), .val (.int w1), .val (.ref au), .val (.ref av), .val (.ref bt), .val (.ref au), .val (.ref ai), .val (.int 0)] [])
      exact tail Th4 _ Xh4 eh4 Nh4 0 (by rw [if_neg (own_cneq (n := 3) hn1 hn2 hnn)])
theorem own_EW {Z : State} {a0 : Array Value} (hw : ∀ d ∈ tables_1, d.before a0 Z = true) : EW Z a0 consts_1 :=
  EW.cons (oW hw 41 rfl) (by decide +kernel) (EW.cons (oW hw 102 rfl) (by decide +kernel) (EW.cons (oW hw 18 rfl) (by decide +kernel) EW.nil))
set_option maxRecDepth 65536 in
set_option maxHeartbeats 40000000 in
theorem comes_1 {Post : Tables → Env → Array Value → State → Outcome → State → Prop} (hpost : ∀ tb e args s v u, (limb_1_1.after args s (.returned v) u = true ∧ limb_1_2.after args s (.returned v) u = true ∧ True) → ReturnedEndW s (.returned v) u (Jvm.fieldLocs frame_1_writes args s ++ Jvm.arrayLocs frame_1_arrays args s ++ Jvm.staticLocs frame_1_statics s) 40 3328 → Post tb e args s (.returned v) u) :
    ArmFor flags0 classFile x code maxLocals ret World_1 tables_1 room_1 Calls_1 rest_1 Pre_1 Post := by
  intro l hfl _ _ p e ha hc hk s m args below hf hA hF happ hP
  obtain ⟨hcalls, hrest, hpre⟩ := hP
  obtain ⟨-, -, -, hnamed, -, -, -, hat⟩ := (Spec.applies_iff hf).mp happ
  obtain ⟨hg, hn⟩ := and_e (Cond.before_iff.mp (show (Jvm.Cond.and given_1 narrow_1).before args s = true from hpre))
  obtain ⟨gc, hg⟩ := and_e hg
  obtain ⟨q0, hg⟩ := and_e hg
  obtain ⟨q1, hg⟩ := and_e hg
  obtain ⟨q2, hg⟩ := and_e hg
  obtain ⟨q3, hg⟩ := and_e hg
  obtain ⟨q4, hg⟩ := and_e hg
  have q5 := hg
  obtain ⟨w0, w1, w2, w3, w4, w5, rfl⟩ : ∃ w0 w1 w2 w3 w4 w5 : Value, args = #[w0, w1, w2, w3, w4, w5] := by
    have hs : args.size = 6 := by simpa [Cond.value, given_1] using gc
    obtain ⟨L⟩ := args
    match L, hs with
    | [w0, w1, w2, w3, w4, w5], _ => exact ⟨w0, w1, w2, w3, w4, w5, rfl⟩
  have hw := fun d (hd : d ∈ tables_1) => atoms_spec (ws := Jvm.Cond.code x code maxLocals ret :: tables_1) hat d (List.mem_cons_of_mem _ hd)
  have hfit : Fit s := fun {y c} hc i hi => by
    obtain ⟨ha, rfl⟩ := Array.getElem?_eq_some_iff.mp hc
    have q := List.all_eq_true.mp ((Array.all_eq_true_iff_forall_mem.mp hF) _ (Array.getElem_mem ha)) i (List.mem_range.mpr hi)
    simpa [Array.getElem?_eq_getElem hi] using q
  obtain ⟨i0, ei0⟩ := is_v q0
  obtain rfl : w0 = (.int i0) := Option.some.inj ei0
  obtain ⟨i1, ei1⟩ := is_v q1
  obtain rfl : w1 = (.int i1) := Option.some.inj ei1
  obtain ⟨i2, ei2⟩ := is_v q2
  obtain rfl : w2 = (.int i2) := Option.some.inj ei2
  obtain ⟨i3, ei3⟩ := is_v q3
  obtain rfl : w3 = (.int i3) := Option.some.inj ei3
  obtain ⟨i4, ei4⟩ := is_v q4
  obtain rfl : w4 = (.int i4) := Option.some.inj ei4
  obtain ⟨i5, ei5⟩ := is_v q5
  obtain rfl : w5 = (.int i5) := Option.some.inj ei5
  obtain ⟨hsets, hown0⟩ := atoms_of _ (rest_1_c_eq ▸ (show rest_1_c.before _ s = true from hrest))
  have hr0 := Cond.before_iff.mp hown0
  have nCS := not_v (Cond.before_iff.mp (hsets _ (List.mem_of_getElem? (i := 2) rfl)))
  obtain ⟨iCS, eCS⟩ := is_v (Cond.before_iff.mp (hsets _ (List.mem_of_getElem? (i := 1) rfl)))
  have SCS : Sta s s.heap "java/lang/String" "COMPACT_STRINGS" "Z" (.int iCS) := Sta.start eCS (Or.inl (hsets _ (List.mem_of_getElem? (i := 0) rfl)))
  have cCS : ¬ (iCS = (0 : Int32)) := gotF (Cond.eq_ints eCS (Term.int_eval (0))) nCS
  obtain ⟨vFM, eFM, rFM⟩ := isR_v (Cond.before_iff.mp (hsets _ (List.mem_of_getElem? (i := 8) rfl)))
  have SFM : Sta s s.heap "jdk/internal/util/Preconditions" "SIOOBE_FORMATTER" "Ljava/util/function/BiFunction;" vFM := Sta.start eFM (Or.inl (hsets _ (List.mem_of_getElem? (i := 7) rfl)))
  have wS : ∀ a ∈ Bundle.stringAtoms, a.before _ s = true := fun d hd => hw d ((by decide +kernel : ∀ d ∈ Bundle.stringAtoms, d ∈ tables_1) d hd)
  have hEW := own_EW hw
  obtain ⟨nB, hn⟩ := and_e hn
  obtain ⟨nI, hn⟩ := and_e hn
  obtain ⟨oB, oI⟩ := and_e hn
  obtain ⟨aB, eB⟩ := exa_v nB
  obtain ⟨aI, eI⟩ := exa_v nI
  have SB : Sta s s.heap "com/example/rank3/rank3/graph/Term$Kind" "BLANK_NODE" "Lcom/example/rank3/rank3/graph/Term$Kind;" (.ref aB) := Sta.start eB (Or.inr ⟨(oW hw 33 rfl), (oW hw 34 rfl)⟩)
  have fB := Cond.eq_int (Cond.before_iff.mpr oB) rfl
  rw [fld_at eB] at fB
  have SI : Sta s s.heap "com/example/rank3/rank3/graph/Term$Kind" "IRI" "Lcom/example/rank3/rank3/graph/Term$Kind;" (.ref aI) := Sta.start eI (Or.inr ⟨(oW hw 33 rfl), (oW hw 237 rfl)⟩)
  have fI := Cond.eq_int (Cond.before_iff.mpr oI) rfl
  rw [fld_at eI] at fI
  have hBI : aB ≠ aI := by
    rintro rfl
    rw [fB] at fI
    exact absurd (Value.int.inj (Option.some.inj fI)) (by decide)
  have hCH : CHv s consts_1 s.vm s.heap := CHv.start hEW (fun p hp => hcalls.1 p hp) (hsets _ (List.mem_of_getElem? (i := 2) rfl)) (oW hw 19 rfl) (oW hw 5 rfl)
  obtain ⟨n, o, h1, h2, h3, _, L, rfl, ⟨rfl, N⟩, -, hq⟩ := rm0 l s _ hw tables_1 i0 i1 i2 i3 i4 i5 aB aI iCS vFM s.heap s.heap.size (Nat.le_refl _) hEW wS (Old.start s) SCS cCS SFM rFM SB SI hBI p e ha hc hk s m _ below hf ((Spec.applies_iff_loose hf).mp happ).1 ⟨rfl, State.Warmed39.refl s, rfl, hCH, trivial⟩ trivial
  refine ⟨n, _, h1, h2, h3, hpost _ _ _ _ _ _ ⟨Cond.after_iff.mpr rfl, Cond.after_iff.mpr (eq_i res_at (Term.int_eval (1)) rfl), trivial⟩ ⟨hq.1, hq.2.1, hq.2.2.1, (hq.2.2.2.sift fun y hy => Or.inr (N y hy)).mono (by decide) (by decide)⟩⟩
theorem main_1_1 : Claimed_1_1 := comes_1 fun _ _ _ _ _ _ h hF => ⟨h.1, hF⟩
theorem main_1_2 : Claimed_1_2 := comes_1 fun _ _ _ _ _ _ h hF => ⟨h.2.1, hF⟩
end Jvm.Pilot.@@N@@
namespace Jvm.Pilot.@@N@@
open Jvm Jvm.ClassFile Sem Op Lib Jvm.Free Jvm.Stand Jvm.Pilot.@@N@@.Jvm.D
/-! MADE BY PROGRAM (witnessworld.py) out of the Statement's table words and the real class files: 29 classes; the members and pool entries that the words name. The judged class is class 1, her method 2. -/
namespace start1
open Jvm.ClassFile
def u (s : String) : CpInfo := .utf8 (stringToUtf16 s)
/-- a pool by its gaps: so many unusable entries, then the entry; so many at the end -/
def gap : Nat → List CpInfo → List CpInfo
  | 0, r => r
  | n + 1, r => .unusable :: gap n r
def poolList (es : List (Nat × CpInfo)) (last : Nat) : List CpInfo := es.foldr (fun e r => gap e.1 (e.2 :: r)) (gap last [])
def pool (es : List (Nat × CpInfo)) (last : Nat) : Array CpInfo := ⟨poolList es last⟩
def fileOf (pool : Array CpInfo) (this : Nat) (attrs : Array Attribute := #[]) (ms : Array MethodInfo := #[]) (fl : Nat := 33) (sup : Nat := 0) (ifs : Array Nat := #[]) (fds : Array FieldInfo := #[]) : ClassFile where
  minorVersion := 0
  majorVersion := 65
  constantPool := pool
  accessFlags := fl
  thisClass := this
  superClass := sup
  interfaces := ifs
  fields := fds
  methods := ms
  attributes := attrs
def plain (name : String) (sup : Option ClassId) : Class where
  name := name
  kind := .ordinary
  loader := none
  accessFlags := 33
  super := sup
  interfaces := #[]
  cf := none
  fields := #[]
  methods := #[]
  instanceTypes := #[]
  staticTypes := #[]
  resolved := #[]
  callSites := []
  init := .initialized
  statics := none
  mirror := none

def pool0 : Array CpInfo := pool [(5, u "<init>"), (0, u "()V"), (1, .class_ 10), (1, u "java/lang/Object")] 113

def k0c0 : Code := { maxStack := 0, maxLocals := 1, code := object_method_1_code, exceptionTable := #[], attributes := #[] }
def k0m0 : Method := { name := "<init>", desc := "()V", sig := { parameters := [], returnType := none }, accessFlags := 1, code := some k0c0 }
/-- java/lang/Object -/
def k0 : Class := { plain "java/lang/Object" none with
  accessFlags := 33
  interfaces := #[]
  cf := some (fileOf pool0 8 #[] #[{ accessFlags := 1, nameIndex := 5, descriptorIndex := 6, attributes := #[] }] 33 0 #[] #[])
  fields := #[]
  methods := #[k0m0]
  instanceTypes := #[]
  staticTypes := #[]
  resolved := Array.replicate 124 none
  statics := none }

def pool1 : Array CpInfo := pool [(2, .class_ 4), (1, u "java/lang/Object"), (0, u "<init>"), (0, u "()V"), (0, .class_ 8), (0, u "java/lang/String"), (0, .methodref 7 10), (0, .nameAndType 5 11), (0, u "([C)V"), (0, .methodref 13 14), (0, .class_ 15), (0, .nameAndType 16 17), (0, u "com/example/rank3/rank3/graph/TermBlankNodePinLaw"), (0, u "mk"), (0, u "(ICCC)Ljava/lang/String;"), (0, .methodref 19 20), (0, .class_ 21), (0, .nameAndType 22 23), (0, u "com/example/rank3/rank3/graph/Term"), (0, u "blankNode"), (0, u "(Ljava/lang/String;)Lcom/example/rank3/rank3/graph/Term;"), (0, .methodref 19 25), (0, .nameAndType 26 27), (0, u "kind"), (0, u "()Lcom/example/rank3/rank3/graph/Term$Kind;"), (0, .fieldref 29 30), (0, .class_ 31), (0, .nameAndType 32 33), (0, u "com/example/rank3/rank3/graph/Term$Kind"), (0, u "BLANK_NODE"), (0, u "Lcom/example/rank3/rank3/graph/Term$Kind;"), (0, .methodref 19 35), (0, .nameAndType 36 37), (0, u "value"), (0, u "()Ljava/lang/String;"), (0, .methodref 7 39), (0, .nameAndType 40 41), (0, u "equals"), (0, u "(Ljava/lang/Object;)Z"), (0, .methodref 19 43), (0, .nameAndType 44 37), (0, u "datatype"), (0, .methodref 19 46), (0, .nameAndType 47 37), (0, u "language"), (0, .methodref 19 49), (0, .nameAndType 50 37), (0, u "id"), (0, .methodref 7 52), (0, .nameAndType 53 54), (0, u "length"), (0, u "()I"), (0, .methodref 7 56), (0, .nameAndType 57 58), (0, u "charAt"), (0, u "(I)C"), (0, .methodref 19 39), (0, .methodref 19 61), (0, .nameAndType 62 23), (0, u "iri"), (3, u "law"), (0, u "(IIIIII)Z")] 4

def k1m0 : Method := { name := "<init>", desc := "()V", sig := { parameters := [], returnType := none }, accessFlags := 1, code := none }
def k1c1 : Code := { maxStack := 6, maxLocals := 4, code := method_2_code, exceptionTable := #[], attributes := #[] }
def k1m1 : Method := { name := "mk", desc := "(ICCC)Ljava/lang/String;", sig := { parameters := [.int, .char, .char, .char], returnType := some (.object "java/lang/String") }, accessFlags := 10, code := some k1c1 }
def k1c2 : Code := { maxStack := 4, maxLocals := 18, code := code, exceptionTable := #[], attributes := #[] }
def k1m2 : Method := { name := "law", desc := "(IIIIII)Z", sig := { parameters := [.int, .int, .int, .int, .int, .int], returnType := some .boolean }, accessFlags := 9, code := some k1c2 }
/-- com/example/rank3/rank3/graph/TermBlankNodePinLaw -/
def k1 : Class := { plain "com/example/rank3/rank3/graph/TermBlankNodePinLaw" (some 0) with
  accessFlags := 49
  interfaces := #[]
  cf := some (fileOf pool1 13 #[] #[{ accessFlags := 1, nameIndex := 5, descriptorIndex := 6, attributes := #[] }, { accessFlags := 10, nameIndex := 16, descriptorIndex := 17, attributes := #[] }, { accessFlags := 9, nameIndex := 66, descriptorIndex := 67, attributes := #[] }] 49 2 #[] #[])
  fields := #[]
  methods := #[k1m0, k1m1, k1m2]
  instanceTypes := #[]
  staticTypes := #[]
  resolved := Array.replicate 72 none
  statics := none }

def pool2 : Array CpInfo := pool [(1, .class_ 2), (0, u "java/io/Serializable"), (0, .class_ 4), (0, u "java/lang/Object")] 2

/-- java/io/Serializable -/
def k2 : Class := { plain "java/io/Serializable" (some 0) with
  accessFlags := 1537
  interfaces := #[]
  cf := some (fileOf pool2 1 #[] #[] 1537 3 #[] #[])
  fields := #[]
  methods := #[]
  instanceTypes := #[]
  staticTypes := #[]
  resolved := Array.replicate 7 none
  statics := none }

def pool3 : Array CpInfo := pool [(1, .class_ 2), (0, u "java/lang/Comparable"), (0, .class_ 4), (0, u "java/lang/Object")] 7

/-- java/lang/Comparable -/
def k3 : Class := { plain "java/lang/Comparable" (some 0) with
  accessFlags := 1537
  interfaces := #[]
  cf := some (fileOf pool3 1 #[] #[] 1537 3 #[] #[])
  fields := #[]
  methods := #[]
  instanceTypes := #[]
  staticTypes := #[]
  resolved := Array.replicate 12 none
  statics := none }

def pool4 : Array CpInfo := pool [(2, .class_ 4), (1, u "java/lang/CharSequence"), (42, .class_ 48), (0, u "java/lang/CharSequence$1CodePointIterator"), (10, .class_ 60), (0, u "java/lang/CharSequence$1CharIterator"), (5, .class_ 67), (0, u "java/lang/Object")] 63

/-- java/lang/CharSequence -/
def k4 : Class := { plain "java/lang/CharSequence" (some 0) with
  accessFlags := 1537
  interfaces := #[]
  cf := some (fileOf pool4 2 #[.nestMembers #[47, 59]] #[] 1537 66 #[] #[])
  fields := #[]
  methods := #[]
  instanceTypes := #[]
  staticTypes := #[]
  resolved := Array.replicate 131 none
  statics := none }

def pool5 : Array CpInfo := pool [(1, .class_ 2), (0, u "java/lang/constant/Constable"), (0, .class_ 4), (0, u "java/lang/Object")] 6

/-- java/lang/constant/Constable -/
def k5 : Class := { plain "java/lang/constant/Constable" (some 0) with
  accessFlags := 1537
  interfaces := #[]
  cf := some (fileOf pool5 1 #[] #[] 1537 3 #[] #[])
  fields := #[]
  methods := #[]
  instanceTypes := #[]
  staticTypes := #[]
  resolved := Array.replicate 11 none
  statics := none }

def pool6 : Array CpInfo := pool [(1, .class_ 2), (0, u "java/lang/constant/ConstantDesc"), (0, .class_ 4), (0, u "java/lang/Object")] 32

/-- java/lang/constant/ConstantDesc -/
def k6 : Class := { plain "java/lang/constant/ConstantDesc" (some 0) with
  accessFlags := 1537
  interfaces := #[]
  cf := some (fileOf pool6 1 #[] #[] 1537 3 #[] #[])
  fields := #[]
  methods := #[]
  instanceTypes := #[]
  staticTypes := #[]
  resolved := Array.replicate 37 none
  statics := none }

def pool7 : Array CpInfo := pool [(1, .methodref 2 3), (0, .class_ 4), (0, .nameAndType 5 6), (0, u "java/lang/Object"), (0, u "<init>"), (0, u "()V"), (0, .string 8), (0, u ""), (0, .fieldref 10 11), (0, .class_ 12), (0, .nameAndType 13 14), (0, u "java/lang/String"), (0, u "value"), (0, u "[B"), (0, .fieldref 10 16), (0, .nameAndType 17 18), (0, u "coder"), (0, u "B"), (2, u "hash"), (0, u "I"), (2, u "hashIsZero"), (0, u "Z"), (0, .methodref 10 28), (0, .nameAndType 5 29), (0, u "([CIILjava/lang/Void;)V"), (8, .fieldref 10 39), (0, .nameAndType 40 26), (0, u "COMPACT_STRINGS"), (1, .class_ 44), (1, u "java/lang/StringUTF16"), (0, u "compress"), (1, .methodref 42 48), (0, .nameAndType 49 50), (0, u "coderFromArrayLen"), (0, u "([BI)B"), (3, .methodref 55 56), (0, .class_ 57), (0, .nameAndType 58 59), (0, u "java/util/Arrays"), (0, u "copyOfRange"), (0, u "([BII)[B"), (47, .class_ 109), (1, u "java/lang/StringLatin1"), (32, u "()Z"), (34, .methodref 42 178), (0, .nameAndType 45 179), (0, u "([CII)[B"), (13, .class_ 195), (1, u "java/lang/System"), (16, .methodref 193 213), (0, .nameAndType 214 215), (0, u "arraycopy"), (0, u "(Ljava/lang/Object;ILjava/lang/Object;II)V"), (118, u "()I"), (0, .methodref 10 336), (0, .nameAndType 17 337), (0, u "()B"), (2, u "()[B"), (22, u "([BI)C"), (27, u "(II)V"), (35, u "(I)C"), (61, .methodref 10 490), (0, .nameAndType 5 491), (0, u "(Ljava/lang/AbstractStringBuilder;Ljava/lang/Void;)V"), (0, .methodref 10 493), (0, .nameAndType 494 142), (0, u "isLatin1"), (0, .methodref 107 496), (0, .nameAndType 497 363), (0, u "charAt"), (3, u "checkIndex"), (4, .nameAndType 507 334), (0, u "length"), (24, u "getBytes"), (8, .methodref 107 542), (0, .nameAndType 543 544), (0, u "equals"), (0, u "([B[B)Z"), (4, .methodref 550 506), (0, .class_ 551), (0, u "java/lang/AbstractStringBuilder"), (0, .methodref 550 553), (0, .nameAndType 554 340), (0, u "getValue"), (18, u "(Ljava/lang/Object;)Z"), (1, .class_ 576), (0, u "java/lang/CharSequence"), (22, u "CASE_INSENSITIVE_ORDER"), (0, u "Ljava/util/Comparator;"), (220, u "([BIB)V"), (188, u "([C)V"), (36, .methodref 550 493), (5, .fieldref 1054 1055), (0, .class_ 1056), (0, .nameAndType 1057 1058), (0, u "jdk/internal/util/Preconditions"), (0, u "SIOOBE_FORMATTER"), (0, u "Ljava/util/function/BiFunction;"), (0, .methodref 1054 1060), (0, .nameAndType 501 1061), (0, u "(IILjava/util/function/BiFunction;)I"), (39, u "serialPersistentFields"), (0, u "[Ljava/io/ObjectStreamField;"), (0, .class_ 1104), (0, u "java/lang/String$CaseInsensitiveComparator"), (1, .class_ 1107), (0, u "java/io/Serializable"), (0, .class_ 1109), (0, u "java/lang/Comparable"), (0, .class_ 1111), (0, u "java/lang/constant/Constable"), (0, .class_ 1113), (0, u "java/lang/constant/ConstantDesc"), (2, u "serialVersionUID"), (0, u "J"), (3, u "REPL"), (0, u "C"), (2, u "LATIN1"), (1, u "UTF16"), (105, u "(Ljava/lang/StringBuilder;)V")] 217

def k7m0 : Method := { name := "<init>", desc := "()V", sig := { parameters := [], returnType := none }, accessFlags := 1, code := none }
def k7c1 : Code := { maxStack := 5, maxLocals := 2, code := jdk_42_method_3_code, exceptionTable := #[], attributes := #[] }
def k7m1 : Method := { name := "<init>", desc := "([C)V", sig := { parameters := [(.array .char)], returnType := none }, accessFlags := 1, code := some k7c1 }
def k7c2 : Code := { maxStack := 3, maxLocals := 2, code := jdk_42_method_53_code, exceptionTable := #[], attributes := #[] }
def k7m2 : Method := { name := "<init>", desc := "(Ljava/lang/StringBuilder;)V", sig := { parameters := [(.object "java/lang/StringBuilder")], returnType := none }, accessFlags := 1, code := some k7c2 }
def k7c3 : Code := { maxStack := 2, maxLocals := 1, code := jdk_42_method_54_code, exceptionTable := #[], attributes := #[] }
def k7m3 : Method := { name := "length", desc := "()I", sig := { parameters := [], returnType := some .int }, accessFlags := 1, code := some k7c3 }
def k7c4 : Code := { maxStack := 2, maxLocals := 2, code := jdk_42_method_56_code, exceptionTable := #[], attributes := #[] }
def k7m4 : Method := { name := "charAt", desc := "(I)C", sig := { parameters := [.int], returnType := some .char }, accessFlags := 1, code := some k7c4 }
def k7c5 : Code := { maxStack := 2, maxLocals := 3, code := jdk_42_method_66_code, exceptionTable := #[], attributes := #[] }
def k7m5 : Method := { name := "equals", desc := "(Ljava/lang/Object;)Z", sig := { parameters := [(.object "java/lang/Object")], returnType := some .boolean }, accessFlags := 1, code := some k7c5 }
def k7c6 : Code := { maxStack := 5, maxLocals := 4, code := jdk_42_method_147_code, exceptionTable := #[], attributes := #[] }
def k7m6 : Method := { name := "getBytes", desc := "([BIB)V", sig := { parameters := [(.array .byte), .int, .byte], returnType := none }, accessFlags := 0, code := some k7c6 }
def k7c7 : Code := { maxStack := 4, maxLocals := 6, code := jdk_42_method_149_code, exceptionTable := #[], attributes := #[] }
def k7m7 : Method := { name := "<init>", desc := "([CIILjava/lang/Void;)V", sig := { parameters := [(.array .char), .int, .int, (.object "java/lang/Void")], returnType := none }, accessFlags := 2, code := some k7c7 }
def k7c8 : Code := { maxStack := 5, maxLocals := 5, code := jdk_42_method_150_code, exceptionTable := #[], attributes := #[] }
def k7m8 : Method := { name := "<init>", desc := "(Ljava/lang/AbstractStringBuilder;Ljava/lang/Void;)V", sig := { parameters := [(.object "java/lang/AbstractStringBuilder"), (.object "java/lang/Void")], returnType := none }, accessFlags := 0, code := some k7c8 }
def k7c9 : Code := { maxStack := 1, maxLocals := 1, code := jdk_42_method_152_code, exceptionTable := #[], attributes := #[] }
def k7m9 : Method := { name := "coder", desc := "()B", sig := { parameters := [], returnType := some .byte }, accessFlags := 0, code := some k7c9 }
def k7c10 : Code := { maxStack := 1, maxLocals := 1, code := jdk_42_method_154_code, exceptionTable := #[], attributes := #[] }
def k7m10 : Method := { name := "isLatin1", desc := "()Z", sig := { parameters := [], returnType := some .boolean }, accessFlags := 0, code := some k7c10 }
def k7c11 : Code := { maxStack := 3, maxLocals := 2, code := jdk_42_method_155_code, exceptionTable := #[], attributes := #[] }
def k7m11 : Method := { name := "checkIndex", desc := "(II)V", sig := { parameters := [.int, .int], returnType := none }, accessFlags := 8, code := some k7c11 }
/-- java/lang/String -/
def k7 : Class := { plain "java/lang/String" (some 0) with
  accessFlags := 49
  interfaces := #[2, 3, 4, 5, 6]
  cf := some (fileOf pool7 10 #[.nestMembers #[1103]] #[{ accessFlags := 1, nameIndex := 5, descriptorIndex := 6, attributes := #[] }, { accessFlags := 1, nameIndex := 5, descriptorIndex := 1010, attributes := #[] }, { accessFlags := 1, nameIndex := 5, descriptorIndex := 1233, attributes := #[] }, { accessFlags := 1, nameIndex := 507, descriptorIndex := 334, attributes := #[] }, { accessFlags := 1, nameIndex := 497, descriptorIndex := 427, attributes := #[] }, { accessFlags := 1, nameIndex := 543, descriptorIndex := 573, attributes := #[] }, { accessFlags := 0, nameIndex := 532, descriptorIndex := 821, attributes := #[] }, { accessFlags := 2, nameIndex := 5, descriptorIndex := 29, attributes := #[] }, { accessFlags := 0, nameIndex := 5, descriptorIndex := 491, attributes := #[] }, { accessFlags := 0, nameIndex := 17, descriptorIndex := 337, attributes := #[] }, { accessFlags := 0, nameIndex := 494, descriptorIndex := 142, attributes := #[] }, { accessFlags := 8, nameIndex := 501, descriptorIndex := 391, attributes := #[] }] 49 2 #[1106, 1108, 575, 1110, 1112] #[{ accessFlags := 18, nameIndex := 13, descriptorIndex := 14, attributes := #[] }, { accessFlags := 18, nameIndex := 17, descriptorIndex := 18, attributes := #[] }, { accessFlags := 2, nameIndex := 21, descriptorIndex := 22, attributes := #[] }, { accessFlags := 2, nameIndex := 25, descriptorIndex := 26, attributes := #[] }, { accessFlags := 26, nameIndex := 1116, descriptorIndex := 1117, attributes := #[] }, { accessFlags := 24, nameIndex := 40, descriptorIndex := 26, attributes := #[] }, { accessFlags := 26, nameIndex := 1101, descriptorIndex := 1102, attributes := #[] }, { accessFlags := 26, nameIndex := 1121, descriptorIndex := 1122, attributes := #[] }, { accessFlags := 25, nameIndex := 599, descriptorIndex := 600, attributes := #[] }, { accessFlags := 24, nameIndex := 1125, descriptorIndex := 18, attributes := #[] }, { accessFlags := 24, nameIndex := 1127, descriptorIndex := 18, attributes := #[] }])
  fields := #[{ name := "value", type := (.array .byte), accessFlags := 18, slot := 0, constantValue := 0 }, { name := "coder", type := .byte, accessFlags := 18, slot := 1, constantValue := 0 }, { name := "hash", type := .int, accessFlags := 2, slot := 2, constantValue := 0 }, { name := "hashIsZero", type := .boolean, accessFlags := 2, slot := 3, constantValue := 0 }, { name := "serialVersionUID", type := .long, accessFlags := 26, slot := 0, constantValue := 0 }, { name := "COMPACT_STRINGS", type := .boolean, accessFlags := 24, slot := 1, constantValue := 0 }, { name := "serialPersistentFields", type := (.array (.object "java/io/ObjectStreamField")), accessFlags := 26, slot := 2, constantValue := 0 }, { name := "REPL", type := .char, accessFlags := 26, slot := 3, constantValue := 0 }, { name := "CASE_INSENSITIVE_ORDER", type := (.object "java/util/Comparator"), accessFlags := 25, slot := 4, constantValue := 0 }, { name := "LATIN1", type := .byte, accessFlags := 24, slot := 5, constantValue := 0 }, { name := "UTF16", type := .byte, accessFlags := 24, slot := 6, constantValue := 0 }]
  methods := #[k7m0, k7m1, k7m2, k7m3, k7m4, k7m5, k7m6, k7m7, k7m8, k7m9, k7m10, k7m11]
  instanceTypes := #[(.array .byte), .byte, .int, .boolean]
  staticTypes := #[.long, .boolean, (.array (.object "java/io/ObjectStreamField")), .char, (.object "java/util/Comparator"), .byte, .byte]
  resolved := Array.replicate 1451 none
  statics := some 0 }

def pool8 : Array CpInfo := pool [(1, .methodref 2 3), (0, .class_ 4), (0, .nameAndType 5 6), (0, u "java/lang/Object"), (0, u "<init>"), (0, u "()V"), (0, .fieldref 8 9), (0, .class_ 10), (0, .nameAndType 11 12), (0, u "com/example/rank3/rank3/graph/Term"), (0, u "kind"), (0, u "Lcom/example/rank3/rank3/graph/Term$Kind;"), (0, .string 14), (0, u "value"), (0, .methodref 16 17), (0, .class_ 18), (0, .nameAndType 19 20), (0, u "java/util/Objects"), (0, u "requireNonNull"), (0, u "(Ljava/lang/Object;Ljava/lang/String;)Ljava/lang/Object;"), (0, .class_ 22), (0, u "java/lang/String"), (0, .fieldref 8 24), (0, .nameAndType 14 25), (0, u "Ljava/lang/String;"), (0, .fieldref 8 27), (0, .nameAndType 28 25), (0, u "datatype"), (0, .fieldref 8 30), (0, .nameAndType 31 25), (0, u "language"), (0, .fieldref 33 34), (0, .class_ 35), (0, .nameAndType 36 12), (0, u "com/example/rank3/rank3/graph/Term$Kind"), (0, u "IRI"), (0, .methodref 8 38), (0, .nameAndType 5 39), (0, u "(Lcom/example/rank3/rank3/graph/Term$Kind;Ljava/lang/String;Ljava/lang/String;Ljava/lang/String;)V"), (0, .fieldref 33 41), (0, .nameAndType 42 12), (0, u "BLANK_NODE"), (14, .class_ 58), (0, u "java/lang/StringBuilder"), (0, .methodref 57 3), (0, .string 61), (0, u "_:"), (0, .methodref 57 63), (0, .nameAndType 64 65), (0, u "append"), (0, u "(Ljava/lang/String;)Ljava/lang/StringBuilder;"), (0, .methodref 57 67), (0, .nameAndType 68 69), (0, u "toString"), (0, u "()Ljava/lang/String;"), (0, .methodref 21 71), (0, .nameAndType 72 73), (0, u "equals"), (0, u "(Ljava/lang/Object;)Z"), (0, .methodref 16 75), (0, .nameAndType 72 76), (0, u "(Ljava/lang/Object;Ljava/lang/Object;)Z"), (11, u "id"), (2, u "iri"), (0, u "(Ljava/lang/String;)Lcom/example/rank3/rank3/graph/Term;"), (0, u "blankNode"), (3, u "()Lcom/example/rank3/rank3/graph/Term$Kind;")] 7

def k8c0 : Code := { maxStack := 3, maxLocals := 5, code := prog_15_method_1_code, exceptionTable := #[], attributes := #[] }
def k8m0 : Method := { name := "<init>", desc := "(Lcom/example/rank3/rank3/graph/Term$Kind;Ljava/lang/String;Ljava/lang/String;Ljava/lang/String;)V", sig := { parameters := [(.object "com/example/rank3/rank3/graph/Term$Kind"), (.object "java/lang/String"), (.object "java/lang/String"), (.object "java/lang/String")], returnType := none }, accessFlags := 2, code := some k8c0 }
def k8c1 : Code := { maxStack := 6, maxLocals := 1, code := prog_15_method_2_code, exceptionTable := #[], attributes := #[] }
def k8m1 : Method := { name := "iri", desc := "(Ljava/lang/String;)Lcom/example/rank3/rank3/graph/Term;", sig := { parameters := [(.object "java/lang/String")], returnType := some (.object "com/example/rank3/rank3/graph/Term") }, accessFlags := 9, code := some k8c1 }
def k8c2 : Code := { maxStack := 6, maxLocals := 1, code := prog_15_method_3_code, exceptionTable := #[], attributes := #[] }
def k8m2 : Method := { name := "blankNode", desc := "(Ljava/lang/String;)Lcom/example/rank3/rank3/graph/Term;", sig := { parameters := [(.object "java/lang/String")], returnType := some (.object "com/example/rank3/rank3/graph/Term") }, accessFlags := 9, code := some k8c2 }
def k8c3 : Code := { maxStack := 1, maxLocals := 1, code := prog_15_method_5_code, exceptionTable := #[], attributes := #[] }
def k8m3 : Method := { name := "kind", desc := "()Lcom/example/rank3/rank3/graph/Term$Kind;", sig := { parameters := [], returnType := some (.object "com/example/rank3/rank3/graph/Term$Kind") }, accessFlags := 1, code := some k8c3 }
def k8c4 : Code := { maxStack := 1, maxLocals := 1, code := prog_15_method_6_code, exceptionTable := #[], attributes := #[] }
def k8m4 : Method := { name := "value", desc := "()Ljava/lang/String;", sig := { parameters := [], returnType := some (.object "java/lang/String") }, accessFlags := 1, code := some k8c4 }
def k8c5 : Code := { maxStack := 1, maxLocals := 1, code := prog_15_method_7_code, exceptionTable := #[], attributes := #[] }
def k8m5 : Method := { name := "datatype", desc := "()Ljava/lang/String;", sig := { parameters := [], returnType := some (.object "java/lang/String") }, accessFlags := 1, code := some k8c5 }
def k8c6 : Code := { maxStack := 1, maxLocals := 1, code := prog_15_method_8_code, exceptionTable := #[], attributes := #[] }
def k8m6 : Method := { name := "language", desc := "()Ljava/lang/String;", sig := { parameters := [], returnType := some (.object "java/lang/String") }, accessFlags := 1, code := some k8c6 }
def k8c7 : Code := { maxStack := 2, maxLocals := 1, code := prog_15_method_9_code, exceptionTable := #[], attributes := #[] }
def k8m7 : Method := { name := "id", desc := "()Ljava/lang/String;", sig := { parameters := [], returnType := some (.object "java/lang/String") }, accessFlags := 1, code := some k8c7 }
def k8c8 : Code := { maxStack := 2, maxLocals := 3, code := prog_15_method_10_code, exceptionTable := #[], attributes := #[] }
def k8m8 : Method := { name := "equals", desc := "(Ljava/lang/Object;)Z", sig := { parameters := [(.object "java/lang/Object")], returnType := some .boolean }, accessFlags := 1, code := some k8c8 }
/-- com/example/rank3/rank3/graph/Term -/
def k8 : Class := { plain "com/example/rank3/rank3/graph/Term" (some 0) with
  accessFlags := 49
  interfaces := #[]
  cf := some (fileOf pool8 8 #[.nestMembers #[33]] #[{ accessFlags := 2, nameIndex := 5, descriptorIndex := 39, attributes := #[] }, { accessFlags := 9, nameIndex := 91, descriptorIndex := 92, attributes := #[] }, { accessFlags := 9, nameIndex := 93, descriptorIndex := 92, attributes := #[] }, { accessFlags := 1, nameIndex := 11, descriptorIndex := 97, attributes := #[] }, { accessFlags := 1, nameIndex := 14, descriptorIndex := 69, attributes := #[] }, { accessFlags := 1, nameIndex := 28, descriptorIndex := 69, attributes := #[] }, { accessFlags := 1, nameIndex := 31, descriptorIndex := 69, attributes := #[] }, { accessFlags := 1, nameIndex := 88, descriptorIndex := 69, attributes := #[] }, { accessFlags := 1, nameIndex := 72, descriptorIndex := 73, attributes := #[] }] 49 2 #[] #[{ accessFlags := 18, nameIndex := 11, descriptorIndex := 12, attributes := #[] }, { accessFlags := 18, nameIndex := 14, descriptorIndex := 25, attributes := #[] }, { accessFlags := 18, nameIndex := 28, descriptorIndex := 25, attributes := #[] }, { accessFlags := 18, nameIndex := 31, descriptorIndex := 25, attributes := #[] }])
  fields := #[{ name := "kind", type := (.object "com/example/rank3/rank3/graph/Term$Kind"), accessFlags := 18, slot := 0, constantValue := 0 }, { name := "value", type := (.object "java/lang/String"), accessFlags := 18, slot := 1, constantValue := 0 }, { name := "datatype", type := (.object "java/lang/String"), accessFlags := 18, slot := 2, constantValue := 0 }, { name := "language", type := (.object "java/lang/String"), accessFlags := 18, slot := 3, constantValue := 0 }]
  methods := #[k8m0, k8m1, k8m2, k8m3, k8m4, k8m5, k8m6, k8m7, k8m8]
  instanceTypes := #[(.object "com/example/rank3/rank3/graph/Term$Kind"), (.object "java/lang/String"), (.object "java/lang/String"), (.object "java/lang/String")]
  staticTypes := #[]
  resolved := Array.replicate 105 none
  statics := none }

def pool9 : Array CpInfo := pool [(2, .class_ 4), (1, u "java/lang/Enum"), (0, u "name"), (0, u "Ljava/lang/String;"), (2, u "ordinal"), (0, u "I"), (1, .class_ 14), (1, u "java/lang/Object"), (4, u "hash"), (86, .class_ 108), (1, u "java/lang/Enum$EnumDesc"), (2, .class_ 112), (0, u "java/lang/constant/Constable"), (0, .class_ 114), (0, u "java/lang/Comparable"), (0, .class_ 116), (0, u "java/io/Serializable")] 87

/-- java/lang/Enum -/
def k9 : Class := { plain "java/lang/Enum" (some 0) with
  accessFlags := 1057
  interfaces := #[5, 3, 2]
  cf := some (fileOf pool9 2 #[.nestMembers #[106]] #[] 1057 12 #[111, 113, 115] #[{ accessFlags := 18, nameIndex := 5, descriptorIndex := 6, attributes := #[] }, { accessFlags := 18, nameIndex := 9, descriptorIndex := 10, attributes := #[] }, { accessFlags := 2, nameIndex := 19, descriptorIndex := 10, attributes := #[] }])
  fields := #[{ name := "name", type := (.object "java/lang/String"), accessFlags := 18, slot := 0, constantValue := 0 }, { name := "ordinal", type := .int, accessFlags := 18, slot := 1, constantValue := 0 }, { name := "hash", type := .int, accessFlags := 2, slot := 2, constantValue := 0 }]
  methods := #[]
  instanceTypes := #[(.object "java/lang/String"), .int, .int]
  staticTypes := #[]
  resolved := Array.replicate 204 none
  statics := none }

def pool10 : Array CpInfo := pool [(1, .class_ 2), (0, u "com/example/rank3/rank3/graph/Term$Kind"), (2, u "IRI"), (0, u "Lcom/example/rank3/rank3/graph/Term$Kind;"), (2, u "BLANK_NODE"), (2, u "LITERAL"), (2, u "$VALUES"), (0, u "[Lcom/example/rank3/rank3/graph/Term$Kind;"), (6, .class_ 25), (1, u "java/lang/Enum"), (26, .class_ 53), (0, u "com/example/rank3/rank3/graph/Term")] 2

/-- com/example/rank3/rank3/graph/Term$Kind -/
def k10 : Class := { plain "com/example/rank3/rank3/graph/Term$Kind" (some 9) with
  accessFlags := 16433
  interfaces := #[]
  cf := some (fileOf pool10 1 #[.nestHost 52] #[] 16433 23 #[] #[{ accessFlags := 16409, nameIndex := 5, descriptorIndex := 6, attributes := #[] }, { accessFlags := 16409, nameIndex := 9, descriptorIndex := 6, attributes := #[] }, { accessFlags := 16409, nameIndex := 12, descriptorIndex := 6, attributes := #[] }, { accessFlags := 4122, nameIndex := 15, descriptorIndex := 16, attributes := #[] }])
  fields := #[{ name := "IRI", type := (.object "com/example/rank3/rank3/graph/Term$Kind"), accessFlags := 16409, slot := 0, constantValue := 0 }, { name := "BLANK_NODE", type := (.object "com/example/rank3/rank3/graph/Term$Kind"), accessFlags := 16409, slot := 1, constantValue := 0 }, { name := "LITERAL", type := (.object "com/example/rank3/rank3/graph/Term$Kind"), accessFlags := 16409, slot := 2, constantValue := 0 }, { name := "$VALUES", type := (.array (.object "com/example/rank3/rank3/graph/Term$Kind")), accessFlags := 4122, slot := 3, constantValue := 0 }]
  methods := #[]
  instanceTypes := #[(.object "java/lang/String"), .int, .int]
  staticTypes := #[(.object "com/example/rank3/rank3/graph/Term$Kind"), (.object "com/example/rank3/rank3/graph/Term$Kind"), (.object "com/example/rank3/rank3/graph/Term$Kind"), (.array (.object "com/example/rank3/rank3/graph/Term$Kind"))]
  resolved := Array.replicate 56 none
  statics := some 1 }

def pool11 : Array CpInfo := pool [(2, .class_ 4), (1, u "java/lang/Object"), (0, u "<init>"), (0, u "()V"), (9, u "equals"), (6, u "(Ljava/lang/Object;Ljava/lang/Object;)Z"), (18, .class_ 44), (1, u "java/util/Objects"), (0, u "requireNonNull"), (48, u "(Ljava/lang/Object;Ljava/lang/String;)Ljava/lang/Object;")] 89

def k11m0 : Method := { name := "<init>", desc := "()V", sig := { parameters := [], returnType := none }, accessFlags := 2, code := none }
def k11c1 : Code := { maxStack := 2, maxLocals := 2, code := jdk_31_method_2_code, exceptionTable := #[], attributes := #[] }
def k11m1 : Method := { name := "equals", desc := "(Ljava/lang/Object;Ljava/lang/Object;)Z", sig := { parameters := [(.object "java/lang/Object"), (.object "java/lang/Object")], returnType := some .boolean }, accessFlags := 9, code := some k11c1 }
def k11c2 : Code := { maxStack := 3, maxLocals := 2, code := jdk_31_method_11_code, exceptionTable := #[], attributes := #[] }
def k11m2 : Method := { name := "requireNonNull", desc := "(Ljava/lang/Object;Ljava/lang/String;)Ljava/lang/Object;", sig := { parameters := [(.object "java/lang/Object"), (.object "java/lang/String")], returnType := some (.object "java/lang/Object") }, accessFlags := 9, code := some k11c2 }
/-- java/util/Objects -/
def k11 : Class := { plain "java/util/Objects" (some 0) with
  accessFlags := 49
  interfaces := #[]
  cf := some (fileOf pool11 42 #[] #[{ accessFlags := 2, nameIndex := 5, descriptorIndex := 6, attributes := #[] }, { accessFlags := 9, nameIndex := 16, descriptorIndex := 23, attributes := #[] }, { accessFlags := 9, nameIndex := 45, descriptorIndex := 94, attributes := #[] }] 49 2 #[] #[])
  fields := #[]
  methods := #[k11m0, k11m1, k11m2]
  instanceTypes := #[]
  staticTypes := #[]
  resolved := Array.replicate 184 none
  statics := none }

def pool12 : Array CpInfo := pool [(1, .class_ 2), (0, u "java/lang/Appendable"), (0, .class_ 4), (0, u "java/lang/Object")] 9

/-- java/lang/Appendable -/
def k12 : Class := { plain "java/lang/Appendable" (some 0) with
  accessFlags := 1537
  interfaces := #[]
  cf := some (fileOf pool12 1 #[] #[] 1537 3 #[] #[])
  fields := #[]
  methods := #[]
  instanceTypes := #[]
  staticTypes := #[]
  resolved := Array.replicate 14 none
  statics := none }

def pool13 : Array CpInfo := pool [(1, .class_ 2), (0, u "java/lang/String"), (0, .methodref 4 5), (0, .class_ 6), (0, .nameAndType 7 8), (0, u "java/lang/Object"), (0, u "<init>"), (0, u "()V"), (1, .class_ 12), (1, u "java/lang/AbstractStringBuilder"), (0, u "EMPTYVALUE"), (0, u "[B"), (0, .fieldref 10 16), (0, .nameAndType 17 14), (0, u "value"), (0, .fieldref 1 19), (0, .nameAndType 20 21), (0, u "COMPACT_STRINGS"), (0, u "Z"), (0, .fieldref 10 23), (0, .nameAndType 24 25), (0, u "coder"), (0, u "B"), (6, .methodref 1 33), (0, .nameAndType 34 35), (0, u "length"), (0, u "()I"), (4, .methodref 1 41), (0, .nameAndType 24 42), (0, u "()B"), (2, u "append"), (0, u "(Ljava/lang/String;)Ljava/lang/AbstractStringBuilder;"), (1, .class_ 49), (0, u "java/lang/CharSequence"), (19, u "(Ljava/lang/String;)V"), (5, u "maybeLatin1"), (3, .fieldref 10 80), (0, .nameAndType 81 82), (0, u "count"), (0, u "I"), (2, u "isLatin1"), (0, u "()Z"), (13, .methodref 10 101), (0, .nameAndType 102 103), (0, u "ensureCapacityInternal"), (0, u "(I)V"), (104, .methodref 10 209), (0, .nameAndType 210 211), (0, u "putStringAt"), (0, u "(ILjava/lang/String;)V"), (5, u "inflateIfNeededFor"), (2, .nameAndType 221 222), (0, u "getBytes"), (0, u "([BIB)V"), (174, .methodref 10 398), (0, .nameAndType 217 69), (0, .methodref 1 220), (3, u "()[B"), (40, .class_ 445), (0, u "java/lang/Appendable"), (106, u "getValue")] 56

def k13m0 : Method := { name := "<init>", desc := "()V", sig := { parameters := [], returnType := none }, accessFlags := 0, code := none }
def k13c1 : Code := { maxStack := 2, maxLocals := 2, code := jdk_68_method_2_code, exceptionTable := #[], attributes := #[] }
def k13m1 : Method := { name := "<init>", desc := "(I)V", sig := { parameters := [.int], returnType := none }, accessFlags := 0, code := some k13c1 }
def k13c2 : Code := { maxStack := 1, maxLocals := 1, code := jdk_68_method_6_code, exceptionTable := #[], attributes := #[] }
def k13m2 : Method := { name := "length", desc := "()I", sig := { parameters := [], returnType := some .int }, accessFlags := 1, code := some k13c2 }
def k13c3 : Code := { maxStack := 4, maxLocals := 3, code := jdk_68_method_9_code, exceptionTable := #[], attributes := #[] }
def k13m3 : Method := { name := "ensureCapacityInternal", desc := "(I)V", sig := { parameters := [.int], returnType := none }, accessFlags := 2, code := some k13c3 }
def k13c4 : Code := { maxStack := 3, maxLocals := 3, code := jdk_68_method_22_code, exceptionTable := #[], attributes := #[] }
def k13m4 : Method := { name := "append", desc := "(Ljava/lang/String;)Ljava/lang/AbstractStringBuilder;", sig := { parameters := [(.object "java/lang/String")], returnType := some (.object "java/lang/AbstractStringBuilder") }, accessFlags := 1, code := some k13c4 }
def k13c5 : Code := { maxStack := 1, maxLocals := 1, code := jdk_68_method_64_code, exceptionTable := #[], attributes := #[] }
def k13m5 : Method := { name := "getValue", desc := "()[B", sig := { parameters := [], returnType := some (.array .byte) }, accessFlags := 16, code := some k13c5 }
def k13c6 : Code := { maxStack := 1, maxLocals := 1, code := jdk_68_method_68_code, exceptionTable := #[], attributes := #[] }
def k13m6 : Method := { name := "isLatin1", desc := "()Z", sig := { parameters := [], returnType := some .boolean }, accessFlags := 16, code := some k13c6 }
def k13c7 : Code := { maxStack := 2, maxLocals := 2, code := jdk_68_method_71_code, exceptionTable := #[], attributes := #[] }
def k13m7 : Method := { name := "inflateIfNeededFor", desc := "(Ljava/lang/String;)V", sig := { parameters := [(.object "java/lang/String")], returnType := none }, accessFlags := 2, code := some k13c7 }
def k13c8 : Code := { maxStack := 4, maxLocals := 3, code := jdk_68_method_73_code, exceptionTable := #[], attributes := #[] }
def k13m8 : Method := { name := "putStringAt", desc := "(ILjava/lang/String;)V", sig := { parameters := [.int, (.object "java/lang/String")], returnType := none }, accessFlags := 2, code := some k13c8 }
/-- java/lang/AbstractStringBuilder -/
def k13 : Class := { plain "java/lang/AbstractStringBuilder" (some 0) with
  accessFlags := 1056
  interfaces := #[12, 4]
  cf := some (fileOf pool13 10 #[] #[{ accessFlags := 0, nameIndex := 7, descriptorIndex := 8, attributes := #[] }, { accessFlags := 0, nameIndex := 7, descriptorIndex := 103, attributes := #[] }, { accessFlags := 1, nameIndex := 34, descriptorIndex := 35, attributes := #[] }, { accessFlags := 2, nameIndex := 102, descriptorIndex := 103, attributes := #[] }, { accessFlags := 1, nameIndex := 45, descriptorIndex := 46, attributes := #[] }, { accessFlags := 16, nameIndex := 552, descriptorIndex := 403, attributes := #[] }, { accessFlags := 16, nameIndex := 85, descriptorIndex := 86, attributes := #[] }, { accessFlags := 2, nameIndex := 217, descriptorIndex := 69, attributes := #[] }, { accessFlags := 2, nameIndex := 210, descriptorIndex := 211, attributes := #[] }] 1056 4 #[444, 48] #[{ accessFlags := 0, nameIndex := 17, descriptorIndex := 14, attributes := #[] }, { accessFlags := 0, nameIndex := 24, descriptorIndex := 25, attributes := #[] }, { accessFlags := 0, nameIndex := 75, descriptorIndex := 21, attributes := #[] }, { accessFlags := 0, nameIndex := 81, descriptorIndex := 82, attributes := #[] }, { accessFlags := 26, nameIndex := 13, descriptorIndex := 14, attributes := #[] }])
  fields := #[{ name := "value", type := (.array .byte), accessFlags := 0, slot := 0, constantValue := 0 }, { name := "coder", type := .byte, accessFlags := 0, slot := 1, constantValue := 0 }, { name := "maybeLatin1", type := .boolean, accessFlags := 0, slot := 2, constantValue := 0 }, { name := "count", type := .int, accessFlags := 0, slot := 3, constantValue := 0 }, { name := "EMPTYVALUE", type := (.array .byte), accessFlags := 26, slot := 0, constantValue := 0 }]
  methods := #[k13m0, k13m1, k13m2, k13m3, k13m4, k13m5, k13m6, k13m7, k13m8]
  instanceTypes := #[(.array .byte), .byte, .boolean, .int]
  staticTypes := #[(.array .byte)]
  resolved := Array.replicate 609 none
  statics := none }

def pool14 : Array CpInfo := pool [(1, .methodref 2 3), (0, .class_ 4), (0, .nameAndType 5 6), (0, u "java/lang/AbstractStringBuilder"), (0, u "<init>"), (0, u "(I)V"), (11, .class_ 20), (1, u "java/lang/String"), (3, .class_ 26), (1, u "java/lang/StringBuilder"), (0, u "append"), (0, u "(Ljava/lang/String;)Ljava/lang/StringBuilder;"), (0, .methodref 2 30), (0, .nameAndType 27 31), (0, u "(Ljava/lang/String;)Ljava/lang/AbstractStringBuilder;"), (105, .methodref 18 138), (0, .nameAndType 5 139), (0, u "(Ljava/lang/StringBuilder;)V"), (5, u "()V"), (10, u "()I"), (186, .methodref 2 344), (0, .nameAndType 345 156), (0, u "length"), (3, .class_ 350), (0, u "java/lang/Appendable"), (0, .class_ 352), (0, u "java/io/Serializable"), (0, .class_ 354), (0, u "java/lang/Comparable"), (0, .class_ 356), (0, u "java/lang/CharSequence"), (0, u "serialVersionUID"), (0, u "J"), (40, u "toString"), (0, u "()Ljava/lang/String;")] 21

def k14c0 : Code := { maxStack := 2, maxLocals := 1, code := jdk_67_method_1_code, exceptionTable := #[], attributes := #[] }
def k14m0 : Method := { name := "<init>", desc := "()V", sig := { parameters := [], returnType := none }, accessFlags := 1, code := some k14c0 }
def k14c1 : Code := { maxStack := 2, maxLocals := 2, code := jdk_67_method_7_code, exceptionTable := #[], attributes := #[] }
def k14m1 : Method := { name := "append", desc := "(Ljava/lang/String;)Ljava/lang/StringBuilder;", sig := { parameters := [(.object "java/lang/String")], returnType := some (.object "java/lang/StringBuilder") }, accessFlags := 1, code := some k14c1 }
def k14c2 : Code := { maxStack := 3, maxLocals := 1, code := jdk_67_method_42_code, exceptionTable := #[], attributes := #[] }
def k14m2 : Method := { name := "toString", desc := "()Ljava/lang/String;", sig := { parameters := [], returnType := some (.object "java/lang/String") }, accessFlags := 1, code := some k14c2 }
def k14c3 : Code := { maxStack := 1, maxLocals := 1, code := jdk_67_method_93_code, exceptionTable := #[], attributes := #[] }
def k14m3 : Method := { name := "length", desc := "()I", sig := { parameters := [], returnType := some .int }, accessFlags := 4161, code := some k14c3 }
/-- java/lang/StringBuilder -/
def k14 : Class := { plain "java/lang/StringBuilder" (some 13) with
  accessFlags := 49
  interfaces := #[12, 2, 3, 4]
  cf := some (fileOf pool14 24 #[] #[{ accessFlags := 1, nameIndex := 5, descriptorIndex := 145, attributes := #[] }, { accessFlags := 1, nameIndex := 27, descriptorIndex := 28, attributes := #[] }, { accessFlags := 1, nameIndex := 399, descriptorIndex := 400, attributes := #[] }, { accessFlags := 4161, nameIndex := 345, descriptorIndex := 156, attributes := #[] }] 49 2 #[349, 351, 353, 355] #[{ accessFlags := 24, nameIndex := 357, descriptorIndex := 358, attributes := #[] }])
  fields := #[{ name := "serialVersionUID", type := .long, accessFlags := 24, slot := 0, constantValue := 0 }]
  methods := #[k14m0, k14m1, k14m2, k14m3]
  instanceTypes := #[(.array .byte), .byte, .boolean, .int]
  staticTypes := #[.long]
  resolved := Array.replicate 422 none
  statics := none }

def pool15 : Array CpInfo := pool [(2, .class_ 4), (1, u "java/lang/Object"), (0, u "<init>"), (0, u "()V"), (1, .class_ 10), (1, u "java/lang/System"), (0, u "allowSecurityManager"), (0, u "I"), (16, u "cons"), (0, u "Ljava/io/Console;"), (77, .class_ 110), (1, u "java/lang/System$CallersHolder"), (43, u "initialErrStream"), (0, u "Ljava/io/PrintStream;"), (19, u "security"), (0, u "Ljava/lang/SecurityManager;"), (31, .class_ 209), (0, u "java/lang/System$1"), (7, u "props"), (0, u "Ljava/util/Properties;"), (2, u "lineSeparator"), (0, u "Ljava/lang/String;"), (96, .class_ 321), (1, u "java/lang/System$LoggerFinder"), (5, .class_ 328), (0, u "java/lang/System$Logger"), (67, u "err"), (2, u "out"), (91, u "notSupportedJnuEncoding"), (15, u "in"), (17, u "initialIn"), (0, u "Ljava/io/InputStream;"), (35, u "bootLayer"), (0, u "Ljava/lang/ModuleLayer;"), (99, .class_ 664), (0, u "java/lang/System$2"), (9, u "NEVER"), (2, u "MAYBE"), (49, u "arraycopy"), (0, u "(Ljava/lang/Object;ILjava/lang/Object;II)V"), (72, .class_ 802), (0, u "java/lang/System$Logger$Level")] 31

def k15m0 : Method := { name := "<init>", desc := "()V", sig := { parameters := [], returnType := none }, accessFlags := 2, code := none }
def k15m1 : Method := { name := "arraycopy", desc := "(Ljava/lang/Object;ILjava/lang/Object;II)V", sig := { parameters := [(.object "java/lang/Object"), .int, (.object "java/lang/Object"), .int, .int], returnType := none }, accessFlags := 265, code := none }
/-- java/lang/System -/
def k15 : Class := { plain "java/lang/System" (some 0) with
  accessFlags := 49
  interfaces := #[]
  cf := some (fileOf pool15 8 #[.nestMembers #[319, 327, 801, 108, 663, 208]] #[{ accessFlags := 2, nameIndex := 5, descriptorIndex := 6, attributes := #[] }, { accessFlags := 265, nameIndex := 727, descriptorIndex := 728, attributes := #[] }] 49 2 #[] #[{ accessFlags := 25, nameIndex := 507, descriptorIndex := 526, attributes := #[] }, { accessFlags := 25, nameIndex := 399, descriptorIndex := 155, attributes := #[] }, { accessFlags := 25, nameIndex := 396, descriptorIndex := 155, attributes := #[] }, { accessFlags := 10, nameIndex := 525, descriptorIndex := 526, attributes := #[] }, { accessFlags := 26, nameIndex := 674, descriptorIndex := 12, attributes := #[] }, { accessFlags := 26, nameIndex := 677, descriptorIndex := 12, attributes := #[] }, { accessFlags := 10, nameIndex := 11, descriptorIndex := 12, attributes := #[] }, { accessFlags := 74, nameIndex := 175, descriptorIndex := 176, attributes := #[] }, { accessFlags := 10, nameIndex := 491, descriptorIndex := 222, attributes := #[] }, { accessFlags := 74, nameIndex := 29, descriptorIndex := 30, attributes := #[] }, { accessFlags := 74, nameIndex := 154, descriptorIndex := 155, attributes := #[] }, { accessFlags := 10, nameIndex := 217, descriptorIndex := 218, attributes := #[] }, { accessFlags := 10, nameIndex := 221, descriptorIndex := 222, attributes := #[] }, { accessFlags := 8, nameIndex := 562, descriptorIndex := 563, attributes := #[] }])
  fields := #[{ name := "in", type := (.object "java/io/InputStream"), accessFlags := 25, slot := 0, constantValue := 0 }, { name := "out", type := (.object "java/io/PrintStream"), accessFlags := 25, slot := 1, constantValue := 0 }, { name := "err", type := (.object "java/io/PrintStream"), accessFlags := 25, slot := 2, constantValue := 0 }, { name := "initialIn", type := (.object "java/io/InputStream"), accessFlags := 10, slot := 3, constantValue := 0 }, { name := "NEVER", type := .int, accessFlags := 26, slot := 4, constantValue := 0 }, { name := "MAYBE", type := .int, accessFlags := 26, slot := 5, constantValue := 0 }, { name := "allowSecurityManager", type := .int, accessFlags := 10, slot := 6, constantValue := 0 }, { name := "security", type := (.object "java/lang/SecurityManager"), accessFlags := 74, slot := 7, constantValue := 0 }, { name := "notSupportedJnuEncoding", type := (.object "java/lang/String"), accessFlags := 10, slot := 8, constantValue := 0 }, { name := "cons", type := (.object "java/io/Console"), accessFlags := 74, slot := 9, constantValue := 0 }, { name := "initialErrStream", type := (.object "java/io/PrintStream"), accessFlags := 74, slot := 10, constantValue := 0 }, { name := "props", type := (.object "java/util/Properties"), accessFlags := 10, slot := 11, constantValue := 0 }, { name := "lineSeparator", type := (.object "java/lang/String"), accessFlags := 10, slot := 12, constantValue := 0 }, { name := "bootLayer", type := (.object "java/lang/ModuleLayer"), accessFlags := 8, slot := 13, constantValue := 0 }]
  methods := #[k15m0, k15m1]
  instanceTypes := #[]
  staticTypes := #[(.object "java/io/InputStream"), (.object "java/io/PrintStream"), (.object "java/io/PrintStream"), (.object "java/io/InputStream"), .int, .int, .int, (.object "java/lang/SecurityManager"), (.object "java/lang/String"), (.object "java/io/Console"), (.object "java/io/PrintStream"), (.object "java/util/Properties"), (.object "java/lang/String"), (.object "java/lang/ModuleLayer")]
  resolved := Array.replicate 834 none
  statics := none }

def pool16 : Array CpInfo := pool [(2, .class_ 4), (1, u "java/lang/Object"), (0, u "<init>"), (0, u "()V"), (7, .class_ 16), (1, u "java/util/Arrays"), (57, .class_ 76), (1, u "java/util/Arrays$NaturalOrder"), (36, .class_ 115), (1, u "java/util/Arrays$LegacyMergeSort"), (1, u "Z"), (21, u "copyOfRange"), (10, .methodref 151 152), (0, .class_ 153), (0, .nameAndType 154 155), (0, u "java/lang/System"), (0, u "arraycopy"), (0, u "(Ljava/lang/Object;ILjava/lang/Object;II)V"), (148, .methodref 305 306), (0, .class_ 307), (0, .nameAndType 308 309), (0, u "java/lang/Math"), (0, u "min"), (0, u "(II)I"), (29, .methodref 14 340), (0, .nameAndType 341 342), (0, u "copyOfRangeByte"), (0, u "([BII)[B"), (0, .methodref 14 344), (0, .nameAndType 345 346), (0, u "checkLength"), (0, u "(II)V"), (28, .class_ 376), (0, u "java/util/Arrays$ArrayList"), (68, u "$assertionsDisabled"), (269, u "MIN_ARRAY_SORT_GRAN"), (0, u "I"), (2, u "INSERTIONSORT_THRESHOLD"), (255, .class_ 976), (0, u "java/util/Arrays$ArrayItr")] 52

def k16m0 : Method := { name := "<init>", desc := "()V", sig := { parameters := [], returnType := none }, accessFlags := 2, code := none }
def k16c1 : Code := { maxStack := 4, maxLocals := 2, code := jdk_65_method_131_code, exceptionTable := #[], attributes := #[] }
def k16m1 : Method := { name := "checkLength", desc := "(II)V", sig := { parameters := [.int, .int], returnType := none }, accessFlags := 10, code := some k16c1 }
def k16c2 : Code := { maxStack := 3, maxLocals := 3, code := jdk_65_method_132_code, exceptionTable := #[], attributes := #[] }
def k16m2 : Method := { name := "copyOfRange", desc := "([BII)[B", sig := { parameters := [(.array .byte), .int, .int], returnType := some (.array .byte) }, accessFlags := 9, code := some k16c2 }
def k16c3 : Code := { maxStack := 6, maxLocals := 5, code := jdk_65_method_133_code, exceptionTable := #[], attributes := #[] }
def k16m3 : Method := { name := "copyOfRangeByte", desc := "([BII)[B", sig := { parameters := [(.array .byte), .int, .int], returnType := some (.array .byte) }, accessFlags := 10, code := some k16c3 }
/-- java/util/Arrays -/
def k16 : Class := { plain "java/util/Arrays" (some 0) with
  accessFlags := 49
  interfaces := #[]
  cf := some (fileOf pool16 14 #[.nestMembers #[975, 375, 113, 74]] #[{ accessFlags := 2, nameIndex := 5, descriptorIndex := 6, attributes := #[] }, { accessFlags := 10, nameIndex := 345, descriptorIndex := 346, attributes := #[] }, { accessFlags := 9, nameIndex := 139, descriptorIndex := 342, attributes := #[] }, { accessFlags := 10, nameIndex := 341, descriptorIndex := 342, attributes := #[] }] 49 2 #[] #[{ accessFlags := 26, nameIndex := 715, descriptorIndex := 716, attributes := #[] }, { accessFlags := 26, nameIndex := 719, descriptorIndex := 716, attributes := #[] }, { accessFlags := 4120, nameIndex := 445, descriptorIndex := 117, attributes := #[] }])
  fields := #[{ name := "MIN_ARRAY_SORT_GRAN", type := .int, accessFlags := 26, slot := 0, constantValue := 0 }, { name := "INSERTIONSORT_THRESHOLD", type := .int, accessFlags := 26, slot := 1, constantValue := 0 }, { name := "$assertionsDisabled", type := .boolean, accessFlags := 4120, slot := 2, constantValue := 0 }]
  methods := #[k16m0, k16m1, k16m2, k16m3]
  instanceTypes := #[]
  staticTypes := #[.int, .int, .boolean]
  resolved := Array.replicate 1029 none
  statics := none }

def pool17 : Array CpInfo := pool [(1, .class_ 2), (0, u "java/lang/Math"), (1, .class_ 6), (1, u "java/lang/Object"), (0, u "<init>"), (0, u "()V"), (89, .class_ 100), (1, u "java/lang/Math$RandomNumberGeneratorHolder"), (71, u "negativeZeroFloatBits"), (0, u "J"), (2, u "negativeZeroDoubleBits"), (24, u "min"), (43, u "$assertionsDisabled"), (0, u "Z"), (88, u "(II)I"), (2, u "twoToTheDoubleScaleDown"), (0, u "D"), (4, u "twoToTheDoubleScaleUp"), (9, u "E"), (3, u "PI"), (2, u "TAU"), (2, u "DEGREES_TO_RADIANS"), (0, u "RADIANS_TO_DEGREES")] 94

def k17m0 : Method := { name := "<init>", desc := "()V", sig := { parameters := [], returnType := none }, accessFlags := 2, code := none }
def k17c1 : Code := { maxStack := 2, maxLocals := 2, code := jdk_29_method_69_code, exceptionTable := #[], attributes := #[] }
def k17m1 : Method := { name := "min", desc := "(II)I", sig := { parameters := [.int, .int], returnType := some .int }, accessFlags := 9, code := some k17c1 }
/-- java/lang/Math -/
def k17 : Class := { plain "java/lang/Math" (some 0) with
  accessFlags := 49
  interfaces := #[]
  cf := some (fileOf pool17 1 #[.nestMembers #[98]] #[{ accessFlags := 2, nameIndex := 7, descriptorIndex := 8, attributes := #[] }, { accessFlags := 9, nameIndex := 201, descriptorIndex := 335, attributes := #[] }] 49 4 #[] #[{ accessFlags := 25, nameIndex := 354, descriptorIndex := 339, attributes := #[] }, { accessFlags := 25, nameIndex := 358, descriptorIndex := 339, attributes := #[] }, { accessFlags := 25, nameIndex := 361, descriptorIndex := 339, attributes := #[] }, { accessFlags := 26, nameIndex := 364, descriptorIndex := 339, attributes := #[] }, { accessFlags := 26, nameIndex := 365, descriptorIndex := 339, attributes := #[] }, { accessFlags := 26, nameIndex := 172, descriptorIndex := 173, attributes := #[] }, { accessFlags := 26, nameIndex := 176, descriptorIndex := 173, attributes := #[] }, { accessFlags := 8, nameIndex := 344, descriptorIndex := 339, attributes := #[] }, { accessFlags := 8, nameIndex := 338, descriptorIndex := 339, attributes := #[] }, { accessFlags := 4120, nameIndex := 245, descriptorIndex := 246, attributes := #[] }])
  fields := #[{ name := "E", type := .double, accessFlags := 25, slot := 0, constantValue := 0 }, { name := "PI", type := .double, accessFlags := 25, slot := 1, constantValue := 0 }, { name := "TAU", type := .double, accessFlags := 25, slot := 2, constantValue := 0 }, { name := "DEGREES_TO_RADIANS", type := .double, accessFlags := 26, slot := 3, constantValue := 0 }, { name := "RADIANS_TO_DEGREES", type := .double, accessFlags := 26, slot := 4, constantValue := 0 }, { name := "negativeZeroFloatBits", type := .long, accessFlags := 26, slot := 5, constantValue := 0 }, { name := "negativeZeroDoubleBits", type := .long, accessFlags := 26, slot := 6, constantValue := 0 }, { name := "twoToTheDoubleScaleUp", type := .double, accessFlags := 8, slot := 7, constantValue := 0 }, { name := "twoToTheDoubleScaleDown", type := .double, accessFlags := 8, slot := 8, constantValue := 0 }, { name := "$assertionsDisabled", type := .boolean, accessFlags := 4120, slot := 9, constantValue := 0 }]
  methods := #[k17m0, k17m1]
  instanceTypes := #[]
  staticTypes := #[.double, .double, .double, .double, .double, .long, .long, .double, .double, .boolean]
  resolved := Array.replicate 460 none
  statics := none }

def pool18 : Array CpInfo := pool [(1, .class_ 2), (0, u "java/lang/String"), (1, .class_ 6), (1, u "java/lang/Object"), (0, u "<init>"), (0, u "()V"), (0, .methodref 1 10), (0, .nameAndType 11 12), (0, u "checkIndex"), (0, u "(II)V"), (1, .class_ 16), (1, u "java/lang/StringLatin1"), (36, u "([BI)C"), (67, u "$assertionsDisabled"), (0, u "Z"), (98, .class_ 223), (1, u "java/lang/StringLatin1$LinesSpliterator"), (28, u "charAt"), (28, u "equals"), (0, u "([B[B)Z"), (107, .class_ 391), (0, u "java/lang/StringLatin1$CharsSpliterator")] 3

def k18m0 : Method := { name := "<init>", desc := "()V", sig := { parameters := [], returnType := none }, accessFlags := 0, code := none }
def k18c1 : Code := { maxStack := 2, maxLocals := 2, code := jdk_43_method_2_code, exceptionTable := #[], attributes := #[] }
def k18m1 : Method := { name := "charAt", desc := "([BI)C", sig := { parameters := [(.array .byte), .int], returnType := some .char }, accessFlags := 9, code := some k18c1 }
def k18c2 : Code := { maxStack := 3, maxLocals := 3, code := jdk_43_method_13_code, exceptionTable := #[], attributes := #[] }
def k18m2 : Method := { name := "equals", desc := "([B[B)Z", sig := { parameters := [(.array .byte), (.array .byte)], returnType := some .boolean }, accessFlags := 9, code := some k18c2 }
/-- java/lang/StringLatin1 -/
def k18 : Class := { plain "java/lang/StringLatin1" (some 0) with
  accessFlags := 48
  interfaces := #[]
  cf := some (fileOf pool18 14 #[.nestMembers #[390, 221]] #[{ accessFlags := 0, nameIndex := 7, descriptorIndex := 8, attributes := #[] }, { accessFlags := 9, nameIndex := 252, descriptorIndex := 53, attributes := #[] }, { accessFlags := 9, nameIndex := 281, descriptorIndex := 282, attributes := #[] }] 48 4 #[] #[{ accessFlags := 4120, nameIndex := 121, descriptorIndex := 122, attributes := #[] }])
  fields := #[{ name := "$assertionsDisabled", type := .boolean, accessFlags := 4120, slot := 0, constantValue := 0 }]
  methods := #[k18m0, k18m1, k18m2]
  instanceTypes := #[]
  staticTypes := #[.boolean]
  resolved := Array.replicate 395 none
  statics := none }

def pool19 : Array CpInfo := pool [(2, .class_ 4), (1, u "java/lang/Object"), (0, u "<init>"), (0, u "()V"), (17, .class_ 26), (1, u "jdk/internal/util/Preconditions"), (6, u "checkIndex"), (21, .class_ 56), (0, u "jdk/internal/util/Preconditions$4"), (57, .class_ 115), (0, u "jdk/internal/util/Preconditions$1"), (7, u "SIOOBE_FORMATTER"), (0, u "Ljava/util/function/BiFunction;"), (0, .class_ 126), (0, u "jdk/internal/util/Preconditions$2"), (3, u "AIOOBE_FORMATTER"), (0, .class_ 132), (0, u "jdk/internal/util/Preconditions$3"), (3, u "IOOBE_FORMATTER"), (41, u "(IILjava/util/function/BiFunction;)I")] 15

def k19m0 : Method := { name := "<init>", desc := "()V", sig := { parameters := [], returnType := none }, accessFlags := 1, code := none }
def k19c1 : Code := { maxStack := 3, maxLocals := 3, code := jdk_41_method_11_code, exceptionTable := #[], attributes := #[] }
def k19m1 : Method := { name := "checkIndex", desc := "(IILjava/util/function/BiFunction;)I", sig := { parameters := [.int, .int, (.object "java/util/function/BiFunction")], returnType := some .int }, accessFlags := 9, code := some k19c1 }
/-- jdk/internal/util/Preconditions -/
def k19 : Class := { plain "jdk/internal/util/Preconditions" (some 0) with
  accessFlags := 33
  interfaces := #[]
  cf := some (fileOf pool19 24 #[.nestMembers #[55, 131, 125, 114]] #[{ accessFlags := 1, nameIndex := 5, descriptorIndex := 6, attributes := #[] }, { accessFlags := 9, nameIndex := 33, descriptorIndex := 178, attributes := #[] }] 33 2 #[] #[{ accessFlags := 25, nameIndex := 123, descriptorIndex := 124, attributes := #[] }, { accessFlags := 25, nameIndex := 130, descriptorIndex := 124, attributes := #[] }, { accessFlags := 25, nameIndex := 136, descriptorIndex := 124, attributes := #[] }])
  fields := #[{ name := "SIOOBE_FORMATTER", type := (.object "java/util/function/BiFunction"), accessFlags := 25, slot := 0, constantValue := 0 }, { name := "AIOOBE_FORMATTER", type := (.object "java/util/function/BiFunction"), accessFlags := 25, slot := 1, constantValue := 0 }, { name := "IOOBE_FORMATTER", type := (.object "java/util/function/BiFunction"), accessFlags := 25, slot := 2, constantValue := 0 }]
  methods := #[k19m0, k19m1]
  instanceTypes := #[]
  staticTypes := #[(.object "java/util/function/BiFunction"), (.object "java/util/function/BiFunction"), (.object "java/util/function/BiFunction")]
  resolved := Array.replicate 194 none
  statics := some 2 }

def pool20 : Array CpInfo := pool [(6, .class_ 8), (1, u "java/lang/Object"), (0, u "<init>"), (0, u "()V"), (1, .class_ 14), (1, u "java/lang/StringUTF16"), (31, u "$assertionsDisabled"), (0, u "Z"), (13, u "HI_BYTE_SHIFT"), (0, u "I"), (2, u "LO_BYTE_SHIFT"), (49, .methodref 12 116), (0, .nameAndType 117 118), (0, u "compress"), (0, u "([CI[BII)I"), (3, u "([CII)[B"), (138, u "coderFromArrayLen"), (0, u "([BI)B"), (106, .class_ 371), (1, u "java/lang/StringUTF16$LinesSpliterator"), (58, u "MAX_LENGTH"), (196, .class_ 628), (0, u "java/lang/StringUTF16$CodePointsSpliterator"), (0, .class_ 630), (0, u "java/lang/StringUTF16$CharsSpliterator")] 4

def k20m0 : Method := { name := "<init>", desc := "()V", sig := { parameters := [], returnType := none }, accessFlags := 0, code := none }
def k20c1 : Code := { maxStack := 2, maxLocals := 2, code := jdk_52_method_15_code, exceptionTable := #[], attributes := #[] }
def k20m1 : Method := { name := "coderFromArrayLen", desc := "([BI)B", sig := { parameters := [(.array .byte), .int], returnType := some .byte }, accessFlags := 8, code := some k20c1 }
def k20c2 : Code := { maxStack := 5, maxLocals := 6, code := jdk_52_method_16_code, exceptionTable := #[], attributes := #[] }
def k20m2 : Method := { name := "compress", desc := "([CII)[B", sig := { parameters := [(.array .char), .int, .int], returnType := some (.array .byte) }, accessFlags := 9, code := some k20c2 }
def k20c3 : Code := { maxStack := 3, maxLocals := 7, code := jdk_52_method_21_code, exceptionTable := #[], attributes := #[] }
def k20m3 : Method := { name := "compress", desc := "([CI[BII)I", sig := { parameters := [(.array .char), .int, (.array .byte), .int, .int], returnType := some .int }, accessFlags := 9, code := some k20c3 }
/-- java/lang/StringUTF16 -/
def k20 : Class := { plain "java/lang/StringUTF16" (some 0) with
  accessFlags := 48
  interfaces := #[]
  cf := some (fileOf pool20 12 #[.nestMembers #[627, 629, 369]] #[{ accessFlags := 0, nameIndex := 9, descriptorIndex := 10, attributes := #[] }, { accessFlags := 8, nameIndex := 261, descriptorIndex := 262, attributes := #[] }, { accessFlags := 9, nameIndex := 117, descriptorIndex := 122, attributes := #[] }, { accessFlags := 9, nameIndex := 117, descriptorIndex := 118, attributes := #[] }] 48 6 #[] #[{ accessFlags := 26, nameIndex := 61, descriptorIndex := 62, attributes := #[] }, { accessFlags := 26, nameIndex := 65, descriptorIndex := 62, attributes := #[] }, { accessFlags := 24, nameIndex := 430, descriptorIndex := 62, attributes := #[] }, { accessFlags := 4120, nameIndex := 46, descriptorIndex := 47, attributes := #[] }])
  fields := #[{ name := "HI_BYTE_SHIFT", type := .int, accessFlags := 26, slot := 0, constantValue := 0 }, { name := "LO_BYTE_SHIFT", type := .int, accessFlags := 26, slot := 1, constantValue := 0 }, { name := "MAX_LENGTH", type := .int, accessFlags := 24, slot := 2, constantValue := 0 }, { name := "$assertionsDisabled", type := .boolean, accessFlags := 4120, slot := 3, constantValue := 0 }]
  methods := #[k20m0, k20m1, k20m2, k20m3]
  instanceTypes := #[]
  staticTypes := #[.int, .int, .int, .boolean]
  resolved := Array.replicate 635 none
  statics := none }

def pool21 : Array CpInfo := pool [(9, u "<init>"), (6, .class_ 18), (1, u "java/lang/Object"), (0, u "()V"), (1, .class_ 23), (1, u "jdk/internal/util/ArraysSupport"), (0, u "LOG2_ARRAY_LONG_INDEX_SCALE"), (0, u "I"), (2, u "U"), (0, u "Ljdk/internal/misc/Unsafe;"), (8, u "BIG_ENDIAN"), (0, u "Z"), (8, u "LOG2_BYTE_BIT_SIZE"), (4, u "LOG2_ARRAY_INT_INDEX_SCALE"), (54, u "JLA"), (0, u "Ljdk/internal/access/JavaLangAccess;"), (11, u "LOG2_ARRAY_BOOLEAN_INDEX_SCALE"), (9, u "LOG2_ARRAY_BYTE_INDEX_SCALE"), (5, u "LOG2_ARRAY_CHAR_INDEX_SCALE"), (5, u "LOG2_ARRAY_SHORT_INDEX_SCALE"), (18, u "LOG2_ARRAY_FLOAT_INDEX_SCALE"), (24, u "LOG2_ARRAY_DOUBLE_INDEX_SCALE"), (89, u "T_BOOLEAN"), (2, u "T_CHAR"), (1, u "T_FLOAT"), (1, u "T_DOUBLE"), (1, u "T_BYTE"), (1, u "T_SHORT"), (1, u "T_INT"), (1, u "T_LONG"), (1, u "SOFT_MAX_ARRAY_LENGTH")] 83

def k21m0 : Method := { name := "<init>", desc := "()V", sig := { parameters := [], returnType := none }, accessFlags := 2, code := none }
/-- jdk/internal/util/ArraysSupport -/
def k21 : Class := { plain "jdk/internal/util/ArraysSupport" (some 0) with
  accessFlags := 33
  interfaces := #[]
  cf := some (fileOf pool21 21 #[] #[{ accessFlags := 2, nameIndex := 9, descriptorIndex := 19, attributes := #[] }] 33 16 #[] #[{ accessFlags := 24, nameIndex := 28, descriptorIndex := 29, attributes := #[] }, { accessFlags := 26, nameIndex := 38, descriptorIndex := 39, attributes := #[] }, { accessFlags := 25, nameIndex := 121, descriptorIndex := 25, attributes := #[] }, { accessFlags := 25, nameIndex := 131, descriptorIndex := 25, attributes := #[] }, { accessFlags := 25, nameIndex := 137, descriptorIndex := 25, attributes := #[] }, { accessFlags := 25, nameIndex := 143, descriptorIndex := 25, attributes := #[] }, { accessFlags := 25, nameIndex := 53, descriptorIndex := 25, attributes := #[] }, { accessFlags := 25, nameIndex := 24, descriptorIndex := 25, attributes := #[] }, { accessFlags := 25, nameIndex := 162, descriptorIndex := 25, attributes := #[] }, { accessFlags := 25, nameIndex := 187, descriptorIndex := 25, attributes := #[] }, { accessFlags := 26, nameIndex := 48, descriptorIndex := 25, attributes := #[] }, { accessFlags := 25, nameIndex := 277, descriptorIndex := 25, attributes := #[] }, { accessFlags := 25, nameIndex := 280, descriptorIndex := 25, attributes := #[] }, { accessFlags := 25, nameIndex := 282, descriptorIndex := 25, attributes := #[] }, { accessFlags := 25, nameIndex := 284, descriptorIndex := 25, attributes := #[] }, { accessFlags := 25, nameIndex := 286, descriptorIndex := 25, attributes := #[] }, { accessFlags := 25, nameIndex := 288, descriptorIndex := 25, attributes := #[] }, { accessFlags := 25, nameIndex := 290, descriptorIndex := 25, attributes := #[] }, { accessFlags := 25, nameIndex := 292, descriptorIndex := 25, attributes := #[] }, { accessFlags := 26, nameIndex := 108, descriptorIndex := 109, attributes := #[] }, { accessFlags := 25, nameIndex := 294, descriptorIndex := 25, attributes := #[] }])
  fields := #[{ name := "U", type := (.object "jdk/internal/misc/Unsafe"), accessFlags := 24, slot := 0, constantValue := 0 }, { name := "BIG_ENDIAN", type := .boolean, accessFlags := 26, slot := 1, constantValue := 0 }, { name := "LOG2_ARRAY_BOOLEAN_INDEX_SCALE", type := .int, accessFlags := 25, slot := 2, constantValue := 0 }, { name := "LOG2_ARRAY_BYTE_INDEX_SCALE", type := .int, accessFlags := 25, slot := 3, constantValue := 0 }, { name := "LOG2_ARRAY_CHAR_INDEX_SCALE", type := .int, accessFlags := 25, slot := 4, constantValue := 0 }, { name := "LOG2_ARRAY_SHORT_INDEX_SCALE", type := .int, accessFlags := 25, slot := 5, constantValue := 0 }, { name := "LOG2_ARRAY_INT_INDEX_SCALE", type := .int, accessFlags := 25, slot := 6, constantValue := 0 }, { name := "LOG2_ARRAY_LONG_INDEX_SCALE", type := .int, accessFlags := 25, slot := 7, constantValue := 0 }, { name := "LOG2_ARRAY_FLOAT_INDEX_SCALE", type := .int, accessFlags := 25, slot := 8, constantValue := 0 }, { name := "LOG2_ARRAY_DOUBLE_INDEX_SCALE", type := .int, accessFlags := 25, slot := 9, constantValue := 0 }, { name := "LOG2_BYTE_BIT_SIZE", type := .int, accessFlags := 26, slot := 10, constantValue := 0 }, { name := "T_BOOLEAN", type := .int, accessFlags := 25, slot := 11, constantValue := 0 }, { name := "T_CHAR", type := .int, accessFlags := 25, slot := 12, constantValue := 0 }, { name := "T_FLOAT", type := .int, accessFlags := 25, slot := 13, constantValue := 0 }, { name := "T_DOUBLE", type := .int, accessFlags := 25, slot := 14, constantValue := 0 }, { name := "T_BYTE", type := .int, accessFlags := 25, slot := 15, constantValue := 0 }, { name := "T_SHORT", type := .int, accessFlags := 25, slot := 16, constantValue := 0 }, { name := "T_INT", type := .int, accessFlags := 25, slot := 17, constantValue := 0 }, { name := "T_LONG", type := .int, accessFlags := 25, slot := 18, constantValue := 0 }, { name := "JLA", type := (.object "jdk/internal/access/JavaLangAccess"), accessFlags := 26, slot := 19, constantValue := 0 }, { name := "SOFT_MAX_ARRAY_LENGTH", type := .int, accessFlags := 25, slot := 20, constantValue := 0 }]
  methods := #[k21m0]
  instanceTypes := #[]
  staticTypes := #[(.object "jdk/internal/misc/Unsafe"), .boolean, .int, .int, .int, .int, .int, .int, .int, .int, .int, .int, .int, .int, .int, .int, .int, .int, .int, (.object "jdk/internal/access/JavaLangAccess"), .int]
  resolved := Array.replicate 378 none
  statics := none }

def pool22 : Array CpInfo := pool [(1, u "java/lang/Cloneable"), (0, .class_ 1), (0, u "java/lang/Object"), (0, .class_ 3)] 3

/-- java/lang/Cloneable -/
def k22 : Class := { plain "java/lang/Cloneable" (some 0) with
  accessFlags := 1537
  interfaces := #[]
  cf := some (fileOf pool22 2 #[] #[] 1537 4 #[] #[])
  fields := #[]
  methods := #[]
  instanceTypes := #[]
  staticTypes := #[]
  resolved := Array.replicate 8 none
  statics := none }

/-- the primitive byte -/
def k23 : Class := { plain "byte" none with kind := .primitive 'B', accessFlags := 0x411 }
/-- [B -/
def k24 : Class := { plain "[B" (some 0) with kind := .array 23 .byte, interfaces := #[22, 2], accessFlags := 1041 }

/-- the primitive char -/
def k25 : Class := { plain "char" none with kind := .primitive 'C', accessFlags := 0x411 }
/-- [C -/
def k26 : Class := { plain "[C" (some 0) with kind := .array 25 .char, interfaces := #[22, 2], accessFlags := 1041 }

/-- the primitive int -/
def k27 : Class := { plain "int" none with kind := .primitive 'I', accessFlags := 0x411 }
/-- [I -/
def k28 : Class := { plain "[I" (some 0) with kind := .array 27 .int, interfaces := #[22, 2], accessFlags := 1041 }

def heap : Heap := #[{ cls := 7, slots := #[.long 0, .int 1, .null, .int 0, .null, .int 0, .int 0], vm := .statics 7 },
  { cls := 10, slots := #[.ref 4, .ref 3, .null, .null], vm := .statics 10 },
  { cls := 19, slots := #[.null, .null, .null], vm := .statics 19 },
  { cls := 10, slots := #[.null, .int 1, .int 0], vm := .none },
  { cls := 10, slots := #[.null, .int 0, .int 0], vm := .none }]
def classes : Array Class := #[k0, k1, k2, k3, k4, k5, k6, k7, k8, k9, k10, k11, k12, k13, k14, k15, k16, k17, k18, k19, k20, k21, k22, k23, k24, k25, k26, k27, k28]
def interned : List (Array UInt16 × Addr) := []
def slotsUsed : Nat := 20
def theMethod : MethodId := ⟨1, 2⟩
def args0 : Array Value := #[.int 5, .int 5, .int 5, .int 5, .int 5, .int 5]
def aboutOver (below : List Frame) : State where
  vm := { classes := classes, interned := interned.toArray }
  heap := heap
  slotsUsed := slotsUsed
  threads := #[{ frames := .invoking theMethod args0 :: below }]
def below0 : List Frame := [.native { method := ⟨0, 0⟩, args := #[] }]
def about1 : State := aboutOver below0
def p0 : Program := .bare "" "" ""
def e0 : Env := launch0.env 0 0 0
theorem w_frames : about1.frames = Frame.invoking theMethod args0 :: below0 := rfl
set_option maxRecDepth 65536 in
theorem w_args : argsFit about1.vm theMethod args0 = true := by decide +kernel
set_option maxRecDepth 65536 in
theorem w_heap : heapFits about1 = true := by decide +kernel
set_option maxRecDepth 65536 in
theorem w_runnable : about1.curStatus? = some .runnable := by decide +kernel
set_option maxRecDepth 65536 in
theorem w_alone : about1.alone = true := by decide +kernel
set_option maxRecDepth 65536 in
theorem w_named : about1.methodNamed? x = some theMethod := by decide +kernel
set_option maxRecDepth 65536 in
theorem w_hears : about1.hears theMethod below0 = true := by decide +kernel
set_option maxRecDepth 65536 in
theorem w_ripe : about1.ripe theMethod args0 below0 = true := by decide +kernel
theorem w_running : about1.status = .running := rfl
set_option maxRecDepth 65536 in
theorem w_room : about1.hasRoom e0.platform room_1 = true :=
  launch0.hasRoom_least _ room_1 (by decide +kernel) (by decide +kernel) (by decide +kernel) (by decide +kernel) (by decide +kernel) (by decide +kernel)
theorem allAtoms_all (ts : List Jvm.Cond) (a : Array Jvm.Value) (st : Jvm.State) : (allAtoms ts).before a st = ts.all (fun c => c.before a st) := by
  induction ts with
  | nil => rfl
  | cons c t ih =>
    show (Jvm.Cond.and c (allAtoms t)).before a st = _
    rw [Jvm.Cond.before_and, ih, List.all_cons]
def words1 : List Jvm.Cond := Jvm.Cond.code x code maxLocals ret :: tables_1
/-- a 'code' word, met by the world's own term for the bytes: nothing is compared byte by byte -/
theorem code_word {y : MethodName} {bytes : ByteArray} {mx : Nat} {rt : Option FieldType} {a : Array Value} {s : State} {m : MethodId} {meth : Method} {c : Code} (h1 : s.methodNamed? y = some m) (h2 : s.vm.method? m = some meth) (h3 : meth.code = some c) (h4 : c.code = bytes)
    (h5 : (c.maxLocals == mx && c.exceptionTable.isEmpty && decide (c.maxStack ≤ mostOperands) && decide (meth.sig.returnType = rt) && !meth.locks && decide (parseMethodDescriptor y.desc = some meth.sig)) = true) : (Jvm.Cond.code y bytes mx rt).before a s = true := by
  simp only [Bool.and_eq_true, beq_iff_eq, Bool.not_eq_true', decide_eq_true_eq] at h5
  obtain ⟨⟨⟨⟨⟨g1, g2⟩, g3⟩, g4⟩, g5⟩, g6⟩ := h5
  simp [Cond.before, Cond.holds, Cond.value, h1, h2, h3, h4, g1, g2, g3, g4, g5, g6]
def isCode : Jvm.Cond → Bool
  | .code _ _ _ _ => true
  | _ => false
theorem all_split {L : List Jvm.Cond} {P : Jvm.Cond → Bool} (h1 : L.all (fun c => isCode c || P c) = true) (h2 : ∀ c ∈ L.filter isCode, P c = true) : L.all P = true := by
  refine List.all_eq_true.mpr fun c hc => ?_
  have h := List.all_eq_true.mp h1 c hc
  rcases Bool.eq_false_or_eq_true (isCode c) with hi | hi
  · exact h2 c (List.mem_filter.mpr ⟨hc, hi⟩)
  · simpa [hi] using h
set_option maxRecDepth 65536 in
theorem w_c0 : (Jvm.Cond.code x code maxLocals ret).before args0 about1 = true := code_word (m := ⟨1, 2⟩) (meth := k1m2) (c := k1c2) (by decide +kernel) rfl rfl rfl (by decide +kernel)
set_option maxRecDepth 65536 in
theorem w_c1 : (Jvm.Cond.code ({ cls := "com/example/rank3/rank3/graph/TermBlankNodePinLaw", name := "mk", desc := "(ICCC)Ljava/lang/String;" } : Jvm.MethodName) method_2_code (4 : Nat) (Option.some (Jvm.ClassFile.FieldType.object "java/lang/String"))).before args0 about1 = true := code_word (m := ⟨1, 1⟩) (meth := k1m1) (c := k1c1) (by decide +kernel) rfl rfl rfl (by decide +kernel)
set_option maxRecDepth 65536 in
theorem w_c2 : (Jvm.Cond.code ({ cls := "java/lang/String", name := "<init>", desc := "([C)V" } : Jvm.MethodName) jdk_42_method_3_code (2 : Nat) (Option.none : Option Jvm.ClassFile.FieldType)).before args0 about1 = true := code_word (m := ⟨7, 1⟩) (meth := k7m1) (c := k7c1) (by decide +kernel) rfl rfl rfl (by decide +kernel)
set_option maxRecDepth 65536 in
theorem w_c3 : (Jvm.Cond.code ({ cls := "java/lang/String", name := "<init>", desc := "([CIILjava/lang/Void;)V" } : Jvm.MethodName) jdk_42_method_149_code (6 : Nat) (Option.none : Option Jvm.ClassFile.FieldType)).before args0 about1 = true := code_word (m := ⟨7, 7⟩) (meth := k7m7) (c := k7c7) (by decide +kernel) rfl rfl rfl (by decide +kernel)
set_option maxRecDepth 65536 in
theorem w_c4 : (Jvm.Cond.code ({ cls := "java/lang/Object", name := "<init>", desc := "()V" } : Jvm.MethodName) object_method_1_code (1 : Nat) (Option.none : Option Jvm.ClassFile.FieldType)).before args0 about1 = true := code_word (m := ⟨0, 0⟩) (meth := k0m0) (c := k0c0) (by decide +kernel) rfl rfl rfl (by decide +kernel)
set_option maxRecDepth 65536 in
theorem w_c5 : (Jvm.Cond.code ({ cls := "com/example/rank3/rank3/graph/Term", name := "blankNode", desc := "(Ljava/lang/String;)Lcom/example/rank3/rank3/graph/Term;" } : Jvm.MethodName) prog_15_method_3_code (1 : Nat) (Option.some (Jvm.ClassFile.FieldType.object "com/example/rank3/rank3/graph/Term"))).before args0 about1 = true := code_word (m := ⟨8, 2⟩) (meth := k8m2) (c := k8c2) (by decide +kernel) rfl rfl rfl (by decide +kernel)
set_option maxRecDepth 65536 in
theorem w_c6 : (Jvm.Cond.code ({ cls := "com/example/rank3/rank3/graph/Term", name := "<init>", desc := "(Lcom/example/rank3/rank3/graph/Term$Kind;Ljava/lang/String;Ljava/lang/String;Ljava/lang/String;)V" } : Jvm.MethodName) prog_15_method_1_code (5 : Nat) (Option.none : Option Jvm.ClassFile.FieldType)).before args0 about1 = true := code_word (m := ⟨8, 0⟩) (meth := k8m0) (c := k8c0) (by decide +kernel) rfl rfl rfl (by decide +kernel)
set_option maxRecDepth 65536 in
theorem w_c7 : (Jvm.Cond.code ({ cls := "java/util/Objects", name := "requireNonNull", desc := "(Ljava/lang/Object;Ljava/lang/String;)Ljava/lang/Object;" } : Jvm.MethodName) jdk_31_method_11_code (2 : Nat) (Option.some (Jvm.ClassFile.FieldType.object "java/lang/Object"))).before args0 about1 = true := code_word (m := ⟨11, 2⟩) (meth := k11m2) (c := k11c2) (by decide +kernel) rfl rfl rfl (by decide +kernel)
set_option maxRecDepth 65536 in
theorem w_c8 : (Jvm.Cond.code ({ cls := "com/example/rank3/rank3/graph/Term", name := "kind", desc := "()Lcom/example/rank3/rank3/graph/Term$Kind;" } : Jvm.MethodName) prog_15_method_5_code (1 : Nat) (Option.some (Jvm.ClassFile.FieldType.object "com/example/rank3/rank3/graph/Term$Kind"))).before args0 about1 = true := code_word (m := ⟨8, 3⟩) (meth := k8m3) (c := k8c3) (by decide +kernel) rfl rfl rfl (by decide +kernel)
set_option maxRecDepth 65536 in
theorem w_c9 : (Jvm.Cond.code ({ cls := "com/example/rank3/rank3/graph/Term", name := "value", desc := "()Ljava/lang/String;" } : Jvm.MethodName) prog_15_method_6_code (1 : Nat) (Option.some (Jvm.ClassFile.FieldType.object "java/lang/String"))).before args0 about1 = true := code_word (m := ⟨8, 4⟩) (meth := k8m4) (c := k8c4) (by decide +kernel) rfl rfl rfl (by decide +kernel)
set_option maxRecDepth 65536 in
theorem w_c10 : (Jvm.Cond.code ({ cls := "java/lang/String", name := "equals", desc := "(Ljava/lang/Object;)Z" } : Jvm.MethodName) jdk_42_method_66_code (3 : Nat) (Option.some Jvm.ClassFile.FieldType.boolean)).before args0 about1 = true := code_word (m := ⟨7, 5⟩) (meth := k7m5) (c := k7c5) (by decide +kernel) rfl rfl rfl (by decide +kernel)
set_option maxRecDepth 65536 in
theorem w_c11 : (Jvm.Cond.code ({ cls := "com/example/rank3/rank3/graph/Term", name := "datatype", desc := "()Ljava/lang/String;" } : Jvm.MethodName) prog_15_method_7_code (1 : Nat) (Option.some (Jvm.ClassFile.FieldType.object "java/lang/String"))).before args0 about1 = true := code_word (m := ⟨8, 5⟩) (meth := k8m5) (c := k8c5) (by decide +kernel) rfl rfl rfl (by decide +kernel)
set_option maxRecDepth 65536 in
theorem w_c12 : (Jvm.Cond.code ({ cls := "com/example/rank3/rank3/graph/Term", name := "language", desc := "()Ljava/lang/String;" } : Jvm.MethodName) prog_15_method_8_code (1 : Nat) (Option.some (Jvm.ClassFile.FieldType.object "java/lang/String"))).before args0 about1 = true := code_word (m := ⟨8, 6⟩) (meth := k8m6) (c := k8c6) (by decide +kernel) rfl rfl rfl (by decide +kernel)
set_option maxRecDepth 65536 in
theorem w_c13 : (Jvm.Cond.code ({ cls := "com/example/rank3/rank3/graph/Term", name := "id", desc := "()Ljava/lang/String;" } : Jvm.MethodName) prog_15_method_9_code (1 : Nat) (Option.some (Jvm.ClassFile.FieldType.object "java/lang/String"))).before args0 about1 = true := code_word (m := ⟨8, 7⟩) (meth := k8m7) (c := k8c7) (by decide +kernel) rfl rfl rfl (by decide +kernel)
set_option maxRecDepth 65536 in
theorem w_c14 : (Jvm.Cond.code ({ cls := "java/lang/StringBuilder", name := "<init>", desc := "()V" } : Jvm.MethodName) jdk_67_method_1_code (1 : Nat) (Option.none : Option Jvm.ClassFile.FieldType)).before args0 about1 = true := code_word (m := ⟨14, 0⟩) (meth := k14m0) (c := k14c0) (by decide +kernel) rfl rfl rfl (by decide +kernel)
set_option maxRecDepth 65536 in
theorem w_c15 : (Jvm.Cond.code ({ cls := "java/lang/AbstractStringBuilder", name := "<init>", desc := "(I)V" } : Jvm.MethodName) jdk_68_method_2_code (2 : Nat) (Option.none : Option Jvm.ClassFile.FieldType)).before args0 about1 = true := code_word (m := ⟨13, 1⟩) (meth := k13m1) (c := k13c1) (by decide +kernel) rfl rfl rfl (by decide +kernel)
set_option maxRecDepth 65536 in
theorem w_c16 : (Jvm.Cond.code ({ cls := "java/lang/StringBuilder", name := "append", desc := "(Ljava/lang/String;)Ljava/lang/StringBuilder;" } : Jvm.MethodName) jdk_67_method_7_code (2 : Nat) (Option.some (Jvm.ClassFile.FieldType.object "java/lang/StringBuilder"))).before args0 about1 = true := code_word (m := ⟨14, 1⟩) (meth := k14m1) (c := k14c1) (by decide +kernel) rfl rfl rfl (by decide +kernel)
set_option maxRecDepth 65536 in
theorem w_c17 : (Jvm.Cond.code ({ cls := "java/lang/AbstractStringBuilder", name := "append", desc := "(Ljava/lang/String;)Ljava/lang/AbstractStringBuilder;" } : Jvm.MethodName) jdk_68_method_22_code (3 : Nat) (Option.some (Jvm.ClassFile.FieldType.object "java/lang/AbstractStringBuilder"))).before args0 about1 = true := code_word (m := ⟨13, 4⟩) (meth := k13m4) (c := k13c4) (by decide +kernel) rfl rfl rfl (by decide +kernel)
set_option maxRecDepth 65536 in
theorem w_c18 : (Jvm.Cond.code ({ cls := "java/lang/String", name := "length", desc := "()I" } : Jvm.MethodName) jdk_42_method_54_code (1 : Nat) (Option.some Jvm.ClassFile.FieldType.int)).before args0 about1 = true := code_word (m := ⟨7, 3⟩) (meth := k7m3) (c := k7c3) (by decide +kernel) rfl rfl rfl (by decide +kernel)
set_option maxRecDepth 65536 in
theorem w_c19 : (Jvm.Cond.code ({ cls := "java/lang/String", name := "coder", desc := "()B" } : Jvm.MethodName) jdk_42_method_152_code (1 : Nat) (Option.some Jvm.ClassFile.FieldType.byte)).before args0 about1 = true := code_word (m := ⟨7, 9⟩) (meth := k7m9) (c := k7c9) (by decide +kernel) rfl rfl rfl (by decide +kernel)
set_option maxRecDepth 65536 in
theorem w_c20 : (Jvm.Cond.code ({ cls := "java/lang/AbstractStringBuilder", name := "ensureCapacityInternal", desc := "(I)V" } : Jvm.MethodName) jdk_68_method_9_code (3 : Nat) (Option.none : Option Jvm.ClassFile.FieldType)).before args0 about1 = true := code_word (m := ⟨13, 3⟩) (meth := k13m3) (c := k13c3) (by decide +kernel) rfl rfl rfl (by decide +kernel)
set_option maxRecDepth 65536 in
theorem w_c21 : (Jvm.Cond.code ({ cls := "java/lang/AbstractStringBuilder", name := "putStringAt", desc := "(ILjava/lang/String;)V" } : Jvm.MethodName) jdk_68_method_73_code (3 : Nat) (Option.none : Option Jvm.ClassFile.FieldType)).before args0 about1 = true := code_word (m := ⟨13, 8⟩) (meth := k13m8) (c := k13c8) (by decide +kernel) rfl rfl rfl (by decide +kernel)
set_option maxRecDepth 65536 in
theorem w_c22 : (Jvm.Cond.code ({ cls := "java/lang/AbstractStringBuilder", name := "inflateIfNeededFor", desc := "(Ljava/lang/String;)V" } : Jvm.MethodName) jdk_68_method_71_code (2 : Nat) (Option.none : Option Jvm.ClassFile.FieldType)).before args0 about1 = true := code_word (m := ⟨13, 7⟩) (meth := k13m7) (c := k13c7) (by decide +kernel) rfl rfl rfl (by decide +kernel)
set_option maxRecDepth 65536 in
theorem w_c23 : (Jvm.Cond.code ({ cls := "java/lang/String", name := "getBytes", desc := "([BIB)V" } : Jvm.MethodName) jdk_42_method_147_code (4 : Nat) (Option.none : Option Jvm.ClassFile.FieldType)).before args0 about1 = true := code_word (m := ⟨7, 6⟩) (meth := k7m6) (c := k7c6) (by decide +kernel) rfl rfl rfl (by decide +kernel)
set_option maxRecDepth 65536 in
theorem w_c24 : (Jvm.Cond.code ({ cls := "java/lang/StringBuilder", name := "toString", desc := "()Ljava/lang/String;" } : Jvm.MethodName) jdk_67_method_42_code (1 : Nat) (Option.some (Jvm.ClassFile.FieldType.object "java/lang/String"))).before args0 about1 = true := code_word (m := ⟨14, 2⟩) (meth := k14m2) (c := k14c2) (by decide +kernel) rfl rfl rfl (by decide +kernel)
set_option maxRecDepth 65536 in
theorem w_c25 : (Jvm.Cond.code ({ cls := "java/lang/String", name := "<init>", desc := "(Ljava/lang/StringBuilder;)V" } : Jvm.MethodName) jdk_42_method_53_code (2 : Nat) (Option.none : Option Jvm.ClassFile.FieldType)).before args0 about1 = true := code_word (m := ⟨7, 2⟩) (meth := k7m2) (c := k7c2) (by decide +kernel) rfl rfl rfl (by decide +kernel)
set_option maxRecDepth 65536 in
theorem w_c26 : (Jvm.Cond.code ({ cls := "java/lang/String", name := "<init>", desc := "(Ljava/lang/AbstractStringBuilder;Ljava/lang/Void;)V" } : Jvm.MethodName) jdk_42_method_150_code (5 : Nat) (Option.none : Option Jvm.ClassFile.FieldType)).before args0 about1 = true := code_word (m := ⟨7, 8⟩) (meth := k7m8) (c := k7c8) (by decide +kernel) rfl rfl rfl (by decide +kernel)
set_option maxRecDepth 65536 in
theorem w_c27 : (Jvm.Cond.code ({ cls := "java/lang/AbstractStringBuilder", name := "getValue", desc := "()[B" } : Jvm.MethodName) jdk_68_method_64_code (1 : Nat) (Option.some (Jvm.ClassFile.FieldType.array Jvm.ClassFile.FieldType.byte))).before args0 about1 = true := code_word (m := ⟨13, 5⟩) (meth := k13m5) (c := k13c5) (by decide +kernel) rfl rfl rfl (by decide +kernel)
set_option maxRecDepth 65536 in
theorem w_c28 : (Jvm.Cond.code ({ cls := "java/lang/StringBuilder", name := "length", desc := "()I" } : Jvm.MethodName) jdk_67_method_93_code (1 : Nat) (Option.some Jvm.ClassFile.FieldType.int)).before args0 about1 = true := code_word (m := ⟨14, 3⟩) (meth := k14m3) (c := k14c3) (by decide +kernel) rfl rfl rfl (by decide +kernel)
set_option maxRecDepth 65536 in
theorem w_c29 : (Jvm.Cond.code ({ cls := "java/lang/AbstractStringBuilder", name := "length", desc := "()I" } : Jvm.MethodName) jdk_68_method_6_code (1 : Nat) (Option.some Jvm.ClassFile.FieldType.int)).before args0 about1 = true := code_word (m := ⟨13, 2⟩) (meth := k13m2) (c := k13c2) (by decide +kernel) rfl rfl rfl (by decide +kernel)
set_option maxRecDepth 65536 in
theorem w_c30 : (Jvm.Cond.code ({ cls := "java/lang/AbstractStringBuilder", name := "isLatin1", desc := "()Z" } : Jvm.MethodName) jdk_68_method_68_code (1 : Nat) (Option.some Jvm.ClassFile.FieldType.boolean)).before args0 about1 = true := code_word (m := ⟨13, 6⟩) (meth := k13m6) (c := k13c6) (by decide +kernel) rfl rfl rfl (by decide +kernel)
set_option maxRecDepth 65536 in
theorem w_c31 : (Jvm.Cond.code ({ cls := "java/util/Arrays", name := "copyOfRange", desc := "([BII)[B" } : Jvm.MethodName) jdk_65_method_132_code (3 : Nat) (Option.some (Jvm.ClassFile.FieldType.array Jvm.ClassFile.FieldType.byte))).before args0 about1 = true := code_word (m := ⟨16, 2⟩) (meth := k16m2) (c := k16c2) (by decide +kernel) rfl rfl rfl (by decide +kernel)
set_option maxRecDepth 65536 in
theorem w_c32 : (Jvm.Cond.code ({ cls := "java/util/Arrays", name := "copyOfRangeByte", desc := "([BII)[B" } : Jvm.MethodName) jdk_65_method_133_code (5 : Nat) (Option.some (Jvm.ClassFile.FieldType.array Jvm.ClassFile.FieldType.byte))).before args0 about1 = true := code_word (m := ⟨16, 3⟩) (meth := k16m3) (c := k16c3) (by decide +kernel) rfl rfl rfl (by decide +kernel)
set_option maxRecDepth 65536 in
theorem w_c33 : (Jvm.Cond.code ({ cls := "java/util/Arrays", name := "checkLength", desc := "(II)V" } : Jvm.MethodName) jdk_65_method_131_code (2 : Nat) (Option.none : Option Jvm.ClassFile.FieldType)).before args0 about1 = true := code_word (m := ⟨16, 1⟩) (meth := k16m1) (c := k16c1) (by decide +kernel) rfl rfl rfl (by decide +kernel)
set_option maxRecDepth 65536 in
theorem w_c34 : (Jvm.Cond.code ({ cls := "java/lang/Math", name := "min", desc := "(II)I" } : Jvm.MethodName) jdk_29_method_69_code (2 : Nat) (Option.some Jvm.ClassFile.FieldType.int)).before args0 about1 = true := code_word (m := ⟨17, 1⟩) (meth := k17m1) (c := k17c1) (by decide +kernel) rfl rfl rfl (by decide +kernel)
set_option maxRecDepth 65536 in
theorem w_c35 : (Jvm.Cond.code ({ cls := "java/lang/String", name := "charAt", desc := "(I)C" } : Jvm.MethodName) jdk_42_method_56_code (2 : Nat) (Option.some Jvm.ClassFile.FieldType.char)).before args0 about1 = true := code_word (m := ⟨7, 4⟩) (meth := k7m4) (c := k7c4) (by decide +kernel) rfl rfl rfl (by decide +kernel)
set_option maxRecDepth 65536 in
theorem w_c36 : (Jvm.Cond.code ({ cls := "java/lang/String", name := "isLatin1", desc := "()Z" } : Jvm.MethodName) jdk_42_method_154_code (1 : Nat) (Option.some Jvm.ClassFile.FieldType.boolean)).before args0 about1 = true := code_word (m := ⟨7, 10⟩) (meth := k7m10) (c := k7c10) (by decide +kernel) rfl rfl rfl (by decide +kernel)
set_option maxRecDepth 65536 in
theorem w_c37 : (Jvm.Cond.code ({ cls := "java/lang/StringLatin1", name := "charAt", desc := "([BI)C" } : Jvm.MethodName) jdk_43_method_2_code (2 : Nat) (Option.some Jvm.ClassFile.FieldType.char)).before args0 about1 = true := code_word (m := ⟨18, 1⟩) (meth := k18m1) (c := k18c1) (by decide +kernel) rfl rfl rfl (by decide +kernel)
set_option maxRecDepth 65536 in
theorem w_c38 : (Jvm.Cond.code ({ cls := "java/lang/String", name := "checkIndex", desc := "(II)V" } : Jvm.MethodName) jdk_42_method_155_code (2 : Nat) (Option.none : Option Jvm.ClassFile.FieldType)).before args0 about1 = true := code_word (m := ⟨7, 11⟩) (meth := k7m11) (c := k7c11) (by decide +kernel) rfl rfl rfl (by decide +kernel)
set_option maxRecDepth 65536 in
theorem w_c39 : (Jvm.Cond.code ({ cls := "jdk/internal/util/Preconditions", name := "checkIndex", desc := "(IILjava/util/function/BiFunction;)I" } : Jvm.MethodName) jdk_41_method_11_code (3 : Nat) (Option.some Jvm.ClassFile.FieldType.int)).before args0 about1 = true := code_word (m := ⟨19, 1⟩) (meth := k19m1) (c := k19c1) (by decide +kernel) rfl rfl rfl (by decide +kernel)
set_option maxRecDepth 65536 in
theorem w_c40 : (Jvm.Cond.code ({ cls := "com/example/rank3/rank3/graph/Term", name := "equals", desc := "(Ljava/lang/Object;)Z" } : Jvm.MethodName) prog_15_method_10_code (3 : Nat) (Option.some Jvm.ClassFile.FieldType.boolean)).before args0 about1 = true := code_word (m := ⟨8, 8⟩) (meth := k8m8) (c := k8c8) (by decide +kernel) rfl rfl rfl (by decide +kernel)
set_option maxRecDepth 65536 in
theorem w_c41 : (Jvm.Cond.code ({ cls := "java/lang/StringLatin1", name := "equals", desc := "([B[B)Z" } : Jvm.MethodName) jdk_43_method_13_code (3 : Nat) (Option.some Jvm.ClassFile.FieldType.boolean)).before args0 about1 = true := code_word (m := ⟨18, 2⟩) (meth := k18m2) (c := k18c2) (by decide +kernel) rfl rfl rfl (by decide +kernel)
set_option maxRecDepth 65536 in
theorem w_c42 : (Jvm.Cond.code ({ cls := "java/util/Objects", name := "equals", desc := "(Ljava/lang/Object;Ljava/lang/Object;)Z" } : Jvm.MethodName) jdk_31_method_2_code (2 : Nat) (Option.some Jvm.ClassFile.FieldType.boolean)).before args0 about1 = true := code_word (m := ⟨11, 1⟩) (meth := k11m1) (c := k11c1) (by decide +kernel) rfl rfl rfl (by decide +kernel)
set_option maxRecDepth 65536 in
theorem w_c43 : (Jvm.Cond.code ({ cls := "com/example/rank3/rank3/graph/Term", name := "iri", desc := "(Ljava/lang/String;)Lcom/example/rank3/rank3/graph/Term;" } : Jvm.MethodName) prog_15_method_2_code (1 : Nat) (Option.some (Jvm.ClassFile.FieldType.object "com/example/rank3/rank3/graph/Term"))).before args0 about1 = true := code_word (m := ⟨8, 1⟩) (meth := k8m1) (c := k8c1) (by decide +kernel) rfl rfl rfl (by decide +kernel)
set_option maxRecDepth 65536 in
theorem w_c44 : (Jvm.Cond.code ({ cls := "java/lang/StringUTF16", name := "compress", desc := "([CII)[B" } : Jvm.MethodName) jdk_52_method_16_code (6 : Nat) (Option.some (Jvm.ClassFile.FieldType.array Jvm.ClassFile.FieldType.byte))).before args0 about1 = true := code_word (m := ⟨20, 2⟩) (meth := k20m2) (c := k20c2) (by decide +kernel) rfl rfl rfl (by decide +kernel)
set_option maxRecDepth 65536 in
theorem w_c45 : (Jvm.Cond.code ({ cls := "java/lang/StringUTF16", name := "compress", desc := "([CI[BII)I" } : Jvm.MethodName) jdk_52_method_21_code (7 : Nat) (Option.some Jvm.ClassFile.FieldType.int)).before args0 about1 = true := code_word (m := ⟨20, 3⟩) (meth := k20m3) (c := k20c3) (by decide +kernel) rfl rfl rfl (by decide +kernel)
set_option maxRecDepth 65536 in
theorem w_c46 : (Jvm.Cond.code ({ cls := "java/lang/StringUTF16", name := "coderFromArrayLen", desc := "([BI)B" } : Jvm.MethodName) jdk_52_method_15_code (2 : Nat) (Option.some Jvm.ClassFile.FieldType.byte)).before args0 about1 = true := code_word (m := ⟨20, 1⟩) (meth := k20m1) (c := k20c1) (by decide +kernel) rfl rfl rfl (by decide +kernel)
def codes1 : List Jvm.Cond := [Jvm.Cond.code x code maxLocals ret, Jvm.Cond.code ({ cls := "com/example/rank3/rank3/graph/TermBlankNodePinLaw", name := "mk", desc := "(ICCC)Ljava/lang/String;" } : Jvm.MethodName) method_2_code (4 : Nat) (Option.some (Jvm.ClassFile.FieldType.object "java/lang/String")), Jvm.Cond.code ({ cls := "java/lang/String", name := "<init>", desc := "([C)V" } : Jvm.MethodName) jdk_42_method_3_code (2 : Nat) (Option.none : Option Jvm.ClassFile.FieldType), Jvm.Cond.code ({ cls := "java/lang/String", name := "<init>", desc := "([CIILjava/lang/Void;)V" } : Jvm.MethodName) jdk_42_method_149_code (6 : Nat) (Option.none : Option Jvm.ClassFile.FieldType), Jvm.Cond.code ({ cls := "java/lang/Object", name := "<init>", desc := "()V" } : Jvm.MethodName) object_method_1_code (1 : Nat) (Option.none : Option Jvm.ClassFile.FieldType), Jvm.Cond.code ({ cls := "com/example/rank3/rank3/graph/Term", name := "blankNode", desc := "(Ljava/lang/String;)Lcom/example/rank3/rank3/graph/Term;" } : Jvm.MethodName) prog_15_method_3_code (1 : Nat) (Option.some (Jvm.ClassFile.FieldType.object "com/example/rank3/rank3/graph/Term")), Jvm.Cond.code ({ cls := "com/example/rank3/rank3/graph/Term", name := "<init>", desc := "(Lcom/example/rank3/rank3/graph/Term$Kind;Ljava/lang/String;Ljava/lang/String;Ljava/lang/String;)V" } : Jvm.MethodName) prog_15_method_1_code (5 : Nat) (Option.none : Option Jvm.ClassFile.FieldType), Jvm.Cond.code ({ cls := "java/util/Objects", name := "requireNonNull", desc := "(Ljava/lang/Object;Ljava/lang/String;)Ljava/lang/Object;" } : Jvm.MethodName) jdk_31_method_11_code (2 : Nat) (Option.some (Jvm.ClassFile.FieldType.object "java/lang/Object")), Jvm.Cond.code ({ cls := "com/example/rank3/rank3/graph/Term", name := "kind", desc := "()Lcom/example/rank3/rank3/graph/Term$Kind;" } : Jvm.MethodName) prog_15_method_5_code (1 : Nat) (Option.some (Jvm.ClassFile.FieldType.object "com/example/rank3/rank3/graph/Term$Kind")), Jvm.Cond.code ({ cls := "com/example/rank3/rank3/graph/Term", name := "value", desc := "()Ljava/lang/String;" } : Jvm.MethodName) prog_15_method_6_code (1 : Nat) (Option.some (Jvm.ClassFile.FieldType.object "java/lang/String")), Jvm.Cond.code ({ cls := "java/lang/String", name := "equals", desc := "(Ljava/lang/Object;)Z" } : Jvm.MethodName) jdk_42_method_66_code (3 : Nat) (Option.some Jvm.ClassFile.FieldType.boolean), Jvm.Cond.code ({ cls := "com/example/rank3/rank3/graph/Term", name := "datatype", desc := "()Ljava/lang/String;" } : Jvm.MethodName) prog_15_method_7_code (1 : Nat) (Option.some (Jvm.ClassFile.FieldType.object "java/lang/String")), Jvm.Cond.code ({ cls := "com/example/rank3/rank3/graph/Term", name := "language", desc := "()Ljava/lang/String;" } : Jvm.MethodName) prog_15_method_8_code (1 : Nat) (Option.some (Jvm.ClassFile.FieldType.object "java/lang/String")), Jvm.Cond.code ({ cls := "com/example/rank3/rank3/graph/Term", name := "id", desc := "()Ljava/lang/String;" } : Jvm.MethodName) prog_15_method_9_code (1 : Nat) (Option.some (Jvm.ClassFile.FieldType.object "java/lang/String")), Jvm.Cond.code ({ cls := "java/lang/StringBuilder", name := "<init>", desc := "()V" } : Jvm.MethodName) jdk_67_method_1_code (1 : Nat) (Option.none : Option Jvm.ClassFile.FieldType), Jvm.Cond.code ({ cls := "java/lang/AbstractStringBuilder", name := "<init>", desc := "(I)V" } : Jvm.MethodName) jdk_68_method_2_code (2 : Nat) (Option.none : Option Jvm.ClassFile.FieldType), Jvm.Cond.code ({ cls := "java/lang/StringBuilder", name := "append", desc := "(Ljava/lang/String;)Ljava/lang/StringBuilder;" } : Jvm.MethodName) jdk_67_method_7_code (2 : Nat) (Option.some (Jvm.ClassFile.FieldType.object "java/lang/StringBuilder")), Jvm.Cond.code ({ cls := "java/lang/AbstractStringBuilder", name := "append", desc := "(Ljava/lang/String;)Ljava/lang/AbstractStringBuilder;" } : Jvm.MethodName) jdk_68_method_22_code (3 : Nat) (Option.some (Jvm.ClassFile.FieldType.object "java/lang/AbstractStringBuilder")), Jvm.Cond.code ({ cls := "java/lang/String", name := "length", desc := "()I" } : Jvm.MethodName) jdk_42_method_54_code (1 : Nat) (Option.some Jvm.ClassFile.FieldType.int), Jvm.Cond.code ({ cls := "java/lang/String", name := "coder", desc := "()B" } : Jvm.MethodName) jdk_42_method_152_code (1 : Nat) (Option.some Jvm.ClassFile.FieldType.byte), Jvm.Cond.code ({ cls := "java/lang/AbstractStringBuilder", name := "ensureCapacityInternal", desc := "(I)V" } : Jvm.MethodName) jdk_68_method_9_code (3 : Nat) (Option.none : Option Jvm.ClassFile.FieldType), Jvm.Cond.code ({ cls := "java/lang/AbstractStringBuilder", name := "putStringAt", desc := "(ILjava/lang/String;)V" } : Jvm.MethodName) jdk_68_method_73_code (3 : Nat) (Option.none : Option Jvm.ClassFile.FieldType), Jvm.Cond.code ({ cls := "java/lang/AbstractStringBuilder", name := "inflateIfNeededFor", desc := "(Ljava/lang/String;)V" } : Jvm.MethodName) jdk_68_method_71_code (2 : Nat) (Option.none : Option Jvm.ClassFile.FieldType), Jvm.Cond.code ({ cls := "java/lang/String", name := "getBytes", desc := "([BIB)V" } : Jvm.MethodName) jdk_42_method_147_code (4 : Nat) (Option.none : Option Jvm.ClassFile.FieldType), Jvm.Cond.code ({ cls := "java/lang/StringBuilder", name := "toString", desc := "()Ljava/lang/String;" } : Jvm.MethodName) jdk_67_method_42_code (1 : Nat) (Option.some (Jvm.ClassFile.FieldType.object "java/lang/String")), Jvm.Cond.code ({ cls := "java/lang/String", name := "<init>", desc := "(Ljava/lang/StringBuilder;)V" } : Jvm.MethodName) jdk_42_method_53_code (2 : Nat) (Option.none : Option Jvm.ClassFile.FieldType), Jvm.Cond.code ({ cls := "java/lang/String", name := "<init>", desc := "(Ljava/lang/AbstractStringBuilder;Ljava/lang/Void;)V" } : Jvm.MethodName) jdk_42_method_150_code (5 : Nat) (Option.none : Option Jvm.ClassFile.FieldType), Jvm.Cond.code ({ cls := "java/lang/AbstractStringBuilder", name := "getValue", desc := "()[B" } : Jvm.MethodName) jdk_68_method_64_code (1 : Nat) (Option.some (Jvm.ClassFile.FieldType.array Jvm.ClassFile.FieldType.byte)), Jvm.Cond.code ({ cls := "java/lang/StringBuilder", name := "length", desc := "()I" } : Jvm.MethodName) jdk_67_method_93_code (1 : Nat) (Option.some Jvm.ClassFile.FieldType.int), Jvm.Cond.code ({ cls := "java/lang/AbstractStringBuilder", name := "length", desc := "()I" } : Jvm.MethodName) jdk_68_method_6_code (1 : Nat) (Option.some Jvm.ClassFile.FieldType.int), Jvm.Cond.code ({ cls := "java/lang/AbstractStringBuilder", name := "isLatin1", desc := "()Z" } : Jvm.MethodName) jdk_68_method_68_code (1 : Nat) (Option.some Jvm.ClassFile.FieldType.boolean), Jvm.Cond.code ({ cls := "java/util/Arrays", name := "copyOfRange", desc := "([BII)[B" } : Jvm.MethodName) jdk_65_method_132_code (3 : Nat) (Option.some (Jvm.ClassFile.FieldType.array Jvm.ClassFile.FieldType.byte)), Jvm.Cond.code ({ cls := "java/util/Arrays", name := "copyOfRangeByte", desc := "([BII)[B" } : Jvm.MethodName) jdk_65_method_133_code (5 : Nat) (Option.some (Jvm.ClassFile.FieldType.array Jvm.ClassFile.FieldType.byte)), Jvm.Cond.code ({ cls := "java/util/Arrays", name := "checkLength", desc := "(II)V" } : Jvm.MethodName) jdk_65_method_131_code (2 : Nat) (Option.none : Option Jvm.ClassFile.FieldType), Jvm.Cond.code ({ cls := "java/lang/Math", name := "min", desc := "(II)I" } : Jvm.MethodName) jdk_29_method_69_code (2 : Nat) (Option.some Jvm.ClassFile.FieldType.int), Jvm.Cond.code ({ cls := "java/lang/String", name := "charAt", desc := "(I)C" } : Jvm.MethodName) jdk_42_method_56_code (2 : Nat) (Option.some Jvm.ClassFile.FieldType.char), Jvm.Cond.code ({ cls := "java/lang/String", name := "isLatin1", desc := "()Z" } : Jvm.MethodName) jdk_42_method_154_code (1 : Nat) (Option.some Jvm.ClassFile.FieldType.boolean), Jvm.Cond.code ({ cls := "java/lang/StringLatin1", name := "charAt", desc := "([BI)C" } : Jvm.MethodName) jdk_43_method_2_code (2 : Nat) (Option.some Jvm.ClassFile.FieldType.char), Jvm.Cond.code ({ cls := "java/lang/String", name := "checkIndex", desc := "(II)V" } : Jvm.MethodName) jdk_42_method_155_code (2 : Nat) (Option.none : Option Jvm.ClassFile.FieldType), Jvm.Cond.code ({ cls := "jdk/internal/util/Preconditions", name := "checkIndex", desc := "(IILjava/util/function/BiFunction;)I" } : Jvm.MethodName) jdk_41_method_11_code (3 : Nat) (Option.some Jvm.ClassFile.FieldType.int), Jvm.Cond.code ({ cls := "com/example/rank3/rank3/graph/Term", name := "equals", desc := "(Ljava/lang/Object;)Z" } : Jvm.MethodName) prog_15_method_10_code (3 : Nat) (Option.some Jvm.ClassFile.FieldType.boolean), Jvm.Cond.code ({ cls := "java/lang/StringLatin1", name := "equals", desc := "([B[B)Z" } : Jvm.MethodName) jdk_43_method_13_code (3 : Nat) (Option.some Jvm.ClassFile.FieldType.boolean), Jvm.Cond.code ({ cls := "java/util/Objects", name := "equals", desc := "(Ljava/lang/Object;Ljava/lang/Object;)Z" } : Jvm.MethodName) jdk_31_method_2_code (2 : Nat) (Option.some Jvm.ClassFile.FieldType.boolean), Jvm.Cond.code ({ cls := "com/example/rank3/rank3/graph/Term", name := "iri", desc := "(Ljava/lang/String;)Lcom/example/rank3/rank3/graph/Term;" } : Jvm.MethodName) prog_15_method_2_code (1 : Nat) (Option.some (Jvm.ClassFile.FieldType.object "com/example/rank3/rank3/graph/Term")), Jvm.Cond.code ({ cls := "java/lang/StringUTF16", name := "compress", desc := "([CII)[B" } : Jvm.MethodName) jdk_52_method_16_code (6 : Nat) (Option.some (Jvm.ClassFile.FieldType.array Jvm.ClassFile.FieldType.byte)), Jvm.Cond.code ({ cls := "java/lang/StringUTF16", name := "compress", desc := "([CI[BII)I" } : Jvm.MethodName) jdk_52_method_21_code (7 : Nat) (Option.some Jvm.ClassFile.FieldType.int), Jvm.Cond.code ({ cls := "java/lang/StringUTF16", name := "coderFromArrayLen", desc := "([BI)B" } : Jvm.MethodName) jdk_52_method_15_code (2 : Nat) (Option.some Jvm.ClassFile.FieldType.byte)]
set_option maxRecDepth 65536 in
theorem codes_eq : words1.filter isCode = codes1 := rfl
theorem w_codes : ∀ c ∈ words1.filter isCode, c.before args0 about1 = true := by
  rw [codes_eq]
  intro c hc
  simp only [codes1, List.mem_cons, List.not_mem_nil, or_false] at hc
  rcases hc with rfl | rfl | rfl | rfl | rfl | rfl | rfl | rfl | rfl | rfl | rfl | rfl | rfl | rfl | rfl | rfl | rfl | rfl | rfl | rfl | rfl | rfl | rfl | rfl | rfl | rfl | rfl | rfl | rfl | rfl | rfl | rfl | rfl | rfl | rfl | rfl | rfl | rfl | rfl | rfl | rfl | rfl | rfl | rfl | rfl | rfl | rfl
  · exact w_c0
  · exact w_c1
  · exact w_c2
  · exact w_c3
  · exact w_c4
  · exact w_c5
  · exact w_c6
  · exact w_c7
  · exact w_c8
  · exact w_c9
  · exact w_c10
  · exact w_c11
  · exact w_c12
  · exact w_c13
  · exact w_c14
  · exact w_c15
  · exact w_c16
  · exact w_c17
  · exact w_c18
  · exact w_c19
  · exact w_c20
  · exact w_c21
  · exact w_c22
  · exact w_c23
  · exact w_c24
  · exact w_c25
  · exact w_c26
  · exact w_c27
  · exact w_c28
  · exact w_c29
  · exact w_c30
  · exact w_c31
  · exact w_c32
  · exact w_c33
  · exact w_c34
  · exact w_c35
  · exact w_c36
  · exact w_c37
  · exact w_c38
  · exact w_c39
  · exact w_c40
  · exact w_c41
  · exact w_c42
  · exact w_c43
  · exact w_c44
  · exact w_c45
  · exact w_c46
set_option maxRecDepth 65536 in
theorem w_t1 : (words1.take 24).all (fun c => isCode c || c.before args0 about1) = true := by decide +kernel
set_option maxRecDepth 65536 in
theorem w_t2 : ((words1.drop 24).take 24).all (fun c => isCode c || c.before args0 about1) = true := by decide +kernel
set_option maxRecDepth 65536 in
theorem w_t3 : (((words1.drop 24).drop 24).take 24).all (fun c => isCode c || c.before args0 about1) = true := by decide +kernel
set_option maxRecDepth 65536 in
theorem w_t4 : ((((words1.drop 24).drop 24).drop 24).take 24).all (fun c => isCode c || c.before args0 about1) = true := by decide +kernel
set_option maxRecDepth 65536 in
theorem w_t5 : (((((words1.drop 24).drop 24).drop 24).drop 24).take 24).all (fun c => isCode c || c.before args0 about1) = true := by decide +kernel
set_option maxRecDepth 65536 in
theorem w_t6 : ((((((words1.drop 24).drop 24).drop 24).drop 24).drop 24).take 24).all (fun c => isCode c || c.before args0 about1) = true := by decide +kernel
set_option maxRecDepth 65536 in
theorem w_t7 : (((((((words1.drop 24).drop 24).drop 24).drop 24).drop 24).drop 24).take 24).all (fun c => isCode c || c.before args0 about1) = true := by decide +kernel
set_option maxRecDepth 65536 in
theorem w_t8 : ((((((((words1.drop 24).drop 24).drop 24).drop 24).drop 24).drop 24).drop 24).take 24).all (fun c => isCode c || c.before args0 about1) = true := by decide +kernel
set_option maxRecDepth 65536 in
theorem w_t9 : (((((((((words1.drop 24).drop 24).drop 24).drop 24).drop 24).drop 24).drop 24).drop 24).take 24).all (fun c => isCode c || c.before args0 about1) = true := by decide +kernel
set_option maxRecDepth 65536 in
theorem w_t10 : ((((((((((words1.drop 24).drop 24).drop 24).drop 24).drop 24).drop 24).drop 24).drop 24).drop 24).take 24).all (fun c => isCode c || c.before args0 about1) = true := by decide +kernel
set_option maxRecDepth 65536 in
theorem w_t11 : ((((((((((words1.drop 24).drop 24).drop 24).drop 24).drop 24).drop 24).drop 24).drop 24).drop 24).drop 24).all (fun c => isCode c || c.before args0 about1) = true := by decide +kernel
theorem w_tables : (allAtoms (Jvm.Cond.code x code maxLocals ret :: tables_1)).before args0 about1 = true := by
  rw [allAtoms_all]
  show words1.all (fun c => c.before args0 about1) = true
  refine all_split ?_ w_codes
  rw [← List.take_append_drop 24 words1, List.all_append, w_t1, ← List.take_append_drop 24 (words1.drop 24), List.all_append, w_t2, ← List.take_append_drop 24 ((words1.drop 24).drop 24), List.all_append, w_t3, ← List.take_append_drop 24 (((words1.drop 24).drop 24).drop 24), List.all_append, w_t4, ← List.take_append_drop 24 ((((words1.drop 24).drop 24).drop 24).drop 24), List.all_append, w_t5, ← List.take_append_drop 24 (((((words1.drop 24).drop 24).drop 24).drop 24).drop 24), List.all_append, w_t6, ← List.take_append_drop 24 ((((((words1.drop 24).drop 24).drop 24).drop 24).drop 24).drop 24), List.all_append, w_t7, ← List.take_append_drop 24 (((((((words1.drop 24).drop 24).drop 24).drop 24).drop 24).drop 24).drop 24), List.all_append, w_t8, ← List.take_append_drop 24 ((((((((words1.drop 24).drop 24).drop 24).drop 24).drop 24).drop 24).drop 24).drop 24), List.all_append, w_t9, ← List.take_append_drop 24 (((((((((words1.drop 24).drop 24).drop 24).drop 24).drop 24).drop 24).drop 24).drop 24).drop 24), List.all_append, w_t10, w_t11]
  rfl
set_option maxRecDepth 65536 in
theorem w_rest : rest_1_c.before args0 about1 = true := by decide +kernel
set_option maxRecDepth 65536 in
theorem w_case : (Jvm.Cond.and given_1 narrow_1).before args0 about1 = true := by decide +kernel
set_option maxRecDepth 65536 in
theorem w_consts : constsHeld consts_1 about1 := Jvm.Lit.constsHeldB_iff.mp (by decide +kernel)
theorem w_applies : (headSpec (Jvm.Cond.code x code maxLocals ret :: tables_1) room_1).applies x e0.platform about1 = true :=
  (Spec.applies_iff w_frames).mpr ⟨w_running, w_runnable, w_alone, w_named, w_hears, w_ripe, w_room, w_tables⟩
theorem atStart : AtStart classFile x code maxLocals ret World_1 tables_1 room_1 Calls_1 rest_1 Pre_1 launch0 p0 e0 about1 theMethod args0 below0 :=
  ⟨lists_1, trivial, launch0.admits_env _ _ _, launch0.least_env, fairChoices_fair.cas, fairChoices_fair.clock, w_frames, w_args, w_heap, w_applies, ⟨w_consts, trivial⟩, w_rest, w_case⟩
end start1
theorem witness_1 : WitnessClaimed_1 := ⟨start1.p0, start1.e0, start1.about1, start1.theMethod, start1.args0, start1.below0, start1.atStart⟩
end Jvm.Pilot.@@N@@
