import JvmDerived
import JvmDerived.Pilot.@@N@@Statement
import JvmDerived.Pilot.@@N@@Code
set_option linter.unusedVariables false
set_option linter.unusedSimpArgs false
namespace Jvm.RoadKit
open Sem ClassFile Op Lib Jvm.Stand Jvm.Free Jvm.LawKit
section OwnGo
variable {p : Program} {l : Launch} {e : Env} {R : Room} {s : State} {m : MethodId} {args : Array Value} {below : List Frame} {meth : Method} {c : Code} {T T' : State} {f f' g : JFrame} {locs : List Loc} {cells slots : Nat} {P : Outcome → State → Prop} {Q : Option Value → Heap → List Loc → Prop} {C N : Nat} {Z : State} {a0 : Array Value} {h : Heap}
/-- from T with the frame f on top the invocation ends, and P holds of its end -/
def own_Go (p : Program) (e : Env) (below : List Frame) (P : Outcome → State → Prop) (T : State) (f : JFrame) : Prop := ∃ s₂ o, Steps p.tables e below (T.setTop f) s₂ ∧ s₂.status = .running ∧ Ended s₂ below o ∧ P o s₂
theorem own_st (h : ∀ t, Steps p.tables e below (T'.setTop f') t → Steps p.tables e below (T.setTop f) t) (k : own_Go p e below P T' f') : own_Go p e below P T f := by
  obtain ⟨s2, o, a, b⟩ := k
  exact ⟨s2, o, h _ a, b⟩
theorem own_tr (h : Steps p.tables e below (T.setTop f) (T'.setTop f')) (k : own_Go p e below P T' f') : own_Go p e below P T f := own_st (fun _ q => h.trans q) k
theorem own_cast (q : f = f') (k : own_Go p e below P T f') : own_Go p e below P T f := q ▸ k
def own_P (s : State) (Q : Option Value → Heap → List Loc → Prop) (C N : Nat) (o : Outcome) (U' : State) : Prop := ∃ v L, o = .returned v ∧ Q v U'.heap L ∧ FrameEnd s o U' L C N
theorem own_ret {v : Option Value} (X : Stand p l e R s m args below meth c T locs cells slots) (hlocks : meth.locks = false) (hv : meth.sig.returnType = none → v = none) (hq : Q v T.heap locs) (hC : cells ≤ C) (hN : slots ≤ N)
    (hst : ∀ fs, (∀ (f : JFrame) (acts : List Action), f.method = m → f.locked = none → f.entered = [] → (doReturn e (T.setTop f) acts v).1 = T.setFrames fs) → Steps p.tables e below (T.setTop g) (T.setFrames fs)) : own_Go p e below (own_P s Q C N) T g := by
  obtain ⟨fs, hr, hrun, hended, hW, hsame⟩ := X.leave hv hlocks
  exact ⟨_, _, hst fs hr, hrun, hended, _, _, rfl, hq, ⟨_, rfl⟩, hW, hsame.mono hC hN⟩
theorem own_retN {pc : Nat} {Ls : Array Slot} {z : Int32} {t : FieldType} {rest : List Value} (X : Stand p l e R s m args below meth c T locs cells slots) (hx : p.tables.exec = Jvm.exec) (hlocks : meth.locks = false) (hret : meth.sig.returnType = some t) (ht : t = .boolean ∨ t = .byte ∨ t = .char ∨ t = .short)
    (hd : decode c.code pc = .ok (.ireturn, 1)) (hq : Q (some (.int (nar t z))) T.heap locs) (hC : cells ≤ C) (hN : slots ≤ N) : own_Go p e below (own_P s Q C N) T (mkF m pc Ls (.int z :: rest)) :=
  own_ret X hlocks (fun h => by rw [hret] at h; cases h) hq hC hN (fun fs hr => retN X hx hret ht hd hr)
theorem own_retI {pc : Nat} {Ls : Array Slot} {z : Int32} {rest : List Value} (X : Stand p l e R s m args below meth c T locs cells slots) (hx : p.tables.exec = Jvm.exec) (hlocks : meth.locks = false) (hret : meth.sig.returnType = some .int)
    (hd : decode c.code pc = .ok (.ireturn, 1)) (hq : Q (some (.int z)) T.heap locs) (hC : cells ≤ C) (hN : slots ≤ N) : own_Go p e below (own_P s Q C N) T (mkF m pc Ls (.int z :: rest)) :=
  own_ret X hlocks (fun h => by rw [hret] at h; cases h) hq hC hN (fun fs hr => by
    have hm' : T.vm.method? m = some meth := X.method'
    have hn : narrow .int (.int z) = .int z := rfl
    show Steps p.tables e below (T.setTop { method := m, pc := pc, locals := Ls, stack := _ :: rest, locked := none }) _
    jvm_step X.here [X.here.top, hx, hd, hm', hret, hn]
    first | (intro acts; rw [hr _ acts rfl rfl rfl]) | rw [hr _ _ rfl rfl rfl]
    exact Steps.refl _)
theorem own_retA {pc : Nat} {Ls : Array Slot} {v : Value} {t : FieldType} {rest : List Value} (X : Stand p l e R s m args below meth c T locs cells slots) (hx : p.tables.exec = Jvm.exec) (hlocks : meth.locks = false) (hret : meth.sig.returnType = some t) (ht : t.isReference = true) (hv : v.isRef = true)
    (hd : decode c.code pc = .ok (.areturn, 1)) (hq : Q (some v) T.heap locs) (hC : cells ≤ C) (hN : slots ≤ N) : own_Go p e below (own_P s Q C N) T (mkF m pc Ls (v :: rest)) :=
  own_ret X hlocks (fun h => by rw [hret] at h; cases h) hq hC hN (fun fs hr => by
    have hm' : T.vm.method? m = some meth := X.method'
    show Steps p.tables e below (T.setTop { method := m, pc := pc, locals := Ls, stack := _ :: rest, locked := none }) _
    jvm_step X.here [X.here.top, hx, hd, hm', hret, hv, ht]
    first | (intro acts; rw [hr _ acts rfl rfl rfl]) | rw [hr _ _ rfl rfl rfl]
    exact Steps.refl _)
theorem own_retV {pc : Nat} {Ls : Array Slot} (X : Stand p l e R s m args below meth c T locs cells slots) (hx : p.tables.exec = Jvm.exec) (hlocks : meth.locks = false) (hret : meth.sig.returnType = none)
    (hd : decode c.code pc = .ok (.return_, 1)) (hq : Q none T.heap locs) (hC : cells ≤ C) (hN : slots ≤ N) : own_Go p e below (own_P s Q C N) T (mkF m pc Ls []) :=
  own_ret X hlocks (fun _ => rfl) hq hC hN (fun fs hr => X.returnOut hx hret hd hr)
/-- a method's contract -/
def own_Met (l : Launch) (Z : State) (ws : List Cond) (y : MethodName) (bytes : ByteArray) (ml : Nat) (ret : Option FieldType) (rm : Room) (as' : Array Value) (h : Heap) (Q : Option Value → Heap → List Loc → Prop) : Prop :=
  MetFree l y (head1 (Cond.code y bytes ml ret :: ws) rm) (fun a U => a = as' ∧ Z.Warmed39 U.vm ∧ U.heap = h) (fun _ _ _ _ _ => True) (fun _ U o U' => ∃ v L, o = .returned v ∧ Q v U'.heap L ∧ FrameEnd U o U' L rm.cells rm.slots)
theorem own_body {ws : List Cond} {y : MethodName} {bytes : ByteArray} {ml : Nat} {ret : Option FieldType} {rm : Room} {as' : Array Value} (hpn : plainFor y = true)
    (body : ∀ (p : Program) (e : Env) (s : State) (m : MethodId) (below : List Frame) (meth : Method) (c : Code) (s₁ : State), p.tables.exec = Jvm.exec → c.code = bytes → c.maxLocals = ml → meth.sig.returnType = ret → meth.locks = false → s.vm.findClass y.cls = some m.cls → meth.name = y.name → Z.Warmed39 s.vm →
      Stand p l e rm s m as' below meth c s₁ [] 0 0 → s₁.heap = h → own_Go p e below (own_P s Q rm.cells rm.slots) s₁ (entryFrame m as' ml)) : own_Met l Z ws y bytes ml ret rm as' h Q := by
  refine MetFree.of_bodySF hpn hisR ?_
  intro p e s m args below meth c s₁ Bd hml0 hP hK
  obtain ⟨rfl, hZ, hh⟩ := hP
  exact body p e s m below meth c s₁ Bd.exec Bd.bytes hml0 Bd.returns Bd.notSynchronized (findClass_of_methodNamed Bd.named) (name_of_methodNamed Bd.named Bd.method).1 hZ (Stand.of_body Bd) (by rw [← hh, Bd.state]; rfl)
/-- a callee, as a call asks it -/
def own_Bk (l : Launch) (R : Room) (p : Program) (e : Env) (below : List Frame) (s : State) (args : Array Value) (y : MethodName) (len W : Nat) (as' : Array Value) (h : Heap) (kc ks : Nat) (Q : Option Value → Heap → List Loc → Prop) : Prop :=
  Back l R p e below s args y len W (fun A a => a = as' ∧ A.U.heap = h ∧ A.cells + kc ≤ R.cells ∧ A.slots + ks ≤ R.slots) (fun A _ v B => ∃ L, Q v B.U.heap L ∧ B.locs = A.locs ++ L ∧ B.cells = A.cells + kc ∧ B.slots = A.slots + ks)
theorem own_back {y : MethodName} {bytes : ByteArray} {maxL : Nat} {ret : Option FieldType} {rm : Room} {len W : Nat} {as' : Array Value} (hM : own_Met l Z [] y bytes maxL ret rm as' h Q) (hZ : Z.Warmed39 s.vm) (wc : (Cond.code y bytes maxL ret).before a0 Z = true) (wz : (Cond.initialized y.cls).before a0 Z = true) (hf : rm.frames + 1 ≤ R.frames) (hl : W + (maxL + 11) + rm.locals ≤ R.locals) :
    own_Bk l R p e below s args y len W as' h rm.cells rm.slots Q := backOf hM hZ wc wz hf hl
theorem own_callS (X : Stand p l e R s m args below meth c T locs cells slots) (hx : p.tables.exec = Jvm.exec) (hZ : Z.Warmed39 s.vm) {own : String} {index : Nat} {y : MethodName} {bytes : ByteArray} {maxL : Nat} {ret : Option FieldType} {W kc ks : Nat} {as' : Array Value}
    (hown : s.vm.findClass own = some m.cls) (w1 : (Cond.methodLink own index y).before a0 Z = true) (w2 : (Cond.static y).before a0 Z = true) (w3 : (Cond.initialized y.cls).before a0 Z = true) (w4 : (Cond.code y bytes maxL ret).before a0 Z = true)
    (hK : own_Bk l R p e below s args y 3 W as' h kc ks Q) (hy : y.cls ≠ "java/lang/invoke/MethodHandle" ∧ y.cls ≠ "java/lang/invoke/VarHandle") (hg : g.method = m) (hsize : g.locals.size = c.maxLocals) {argsL rest : List Value}
    (hlen : ∀ sig, parseMethodDescriptor y.desc = some sig → argsL.length = sig.parameters.length) (hstack : g.stack = argsL.reverse ++ rest) (hW : 2 * g.monitorRoom + (rest.map fun v => v.category).sum ≤ W) (hd : decode c.code g.pc = .ok (.invokestatic index, 3))
    (ha : argsL.toArray = as') (eT : T.heap = h) (hc : cells + kc ≤ R.cells) (hs : slots + ks ≤ R.slots)
    (k : ∀ v T' L, Stand p l e R s m args below meth c T' (locs ++ L) (cells + kc) (slots + ks) → Q v T'.heap L → own_Go p e below P T' { g with pc := g.pc + 3, stack := v.toList ++ rest }) : own_Go p e below P T g := by
  obtain ⟨v, _, ⟨T1, L1, k1, n1⟩, -, X1, ⟨Lc, hQ, l1, y1, z1⟩, st⟩ := Jvm.LawKit.callS X hx hown (mvT hZ w1) (mvT hZ w2) (mvT hZ w3) (mvT hZ w4) hy hK hg hsize hlen hstack hW hd (fun _ _ => ⟨ha, eT, hc, hs⟩)
  dsimp only [Pt.U, Pt.locs, Pt.cells, Pt.slots] at X1 l1 y1 z1 st hQ
  subst l1 y1 z1
  exact own_st st (k v T1 Lc X1 hQ)
theorem own_callI (X : Stand p l e R s m args below meth c T locs cells slots) (hx : p.tables.exec = Jvm.exec) (hZ : Z.Warmed39 s.vm) {own : String} {index : Nat} {y : MethodName} {bytes : ByteArray} {maxL W kc ks : Nat} {as' : Array Value}
    (hy1 : y.name = "<init>") (hown : s.vm.findClass own = some m.cls) (w1 : (Cond.methodLink own index y).before a0 Z = true) (w2 : (Cond.instanceMethod y).before a0 Z = true) (w4 : (Cond.code y bytes maxL none).before a0 Z = true)
    (hK : own_Bk l R p e below s args y 3 W as' h kc ks Q) (hy : y.cls ≠ "java/lang/invoke/MethodHandle" ∧ y.cls ≠ "java/lang/invoke/VarHandle") (hg : g.method = m) (hsize : g.locals.size = c.maxLocals) {a : Addr} {argsL rest : List Value}
    (hlen : ∀ sig, parseMethodDescriptor y.desc = some sig → argsL.length = sig.parameters.length) (hstack : g.stack = argsL.reverse ++ .ref a :: rest) (hW : 2 * g.monitorRoom + (rest.map fun v => v.category).sum ≤ W) (hd : decode c.code g.pc = .ok (.invokespecial index, 3))
    (ha : (.ref a :: argsL).toArray = as') (eT : T.heap = h) (hc : cells + kc ≤ R.cells) (hs : slots + ks ≤ R.slots)
    (k : ∀ v T' L, Stand p l e R s m args below meth c T' (locs ++ L) (cells + kc) (slots + ks) → Q v T'.heap L → own_Go p e below P T' { g with pc := g.pc + 3, stack := v.toList ++ rest }) : own_Go p e below P T g := by
  obtain ⟨v, _, ⟨T1, L1, k1, n1⟩, -, X1, ⟨Lc, hQ, l1, y1, z1⟩, st⟩ := X.specialBack hx hy1 hown (mvT hZ w1) (mvT hZ w2) (mvT hZ w4) hy hK hg hsize (Steps.refl _) hlen hstack hW hd (fun _ _ => ⟨ha, eT, hc, hs⟩)
  dsimp only [Pt.U, Pt.locs, Pt.cells, Pt.slots] at X1 l1 y1 z1 st hQ
  subst l1 y1 z1
  exact own_tr st (k v T1 Lc X1 hQ)
theorem own_callV (X : Stand p l e R s m args below meth c T locs cells slots) (hx : p.tables.exec = Jvm.exec) (hZ : Z.Warmed39 s.vm) {own : String} {index : Nat} {y : MethodName} {W kc ks : Nat} {as' : Array Value}
    (hown : s.vm.findClass own = some m.cls) (w1 : (Cond.methodLink own index y).before a0 Z = true) (w2 : (Cond.declares y).before a0 Z = true) (w3 : (Cond.selects y.cls y y).before a0 Z = true) (w4 : (Cond.instanceMethod y).before a0 Z = true)
    (hK : own_Bk l R p e below s args y 3 W as' h kc ks Q) (hy : y.cls ≠ "java/lang/invoke/MethodHandle" ∧ y.cls ≠ "java/lang/invoke/VarHandle") {b : Addr} (E : Exa Z h b y.cls) (hg : g.method = m) (hsize : g.locals.size = c.maxLocals) {argsL rest : List Value}
    (hlen : ∀ sig, parseMethodDescriptor y.desc = some sig → argsL.length = sig.parameters.length) (hstack : g.stack = argsL.reverse ++ .ref b :: rest) (hW : 2 * g.monitorRoom + (rest.map fun v => v.category).sum ≤ W) (hd : decode c.code g.pc = .ok (.invokevirtual index, 3))
    (ha : (.ref b :: argsL).toArray = as') (eT : T.heap = h) (hc : cells + kc ≤ R.cells) (hs : slots + ks ≤ R.slots)
    (k : ∀ v T' L, Stand p l e R s m args below meth c T' (locs ++ L) (cells + kc) (slots + ks) → Q v T'.heap L → own_Go p e below P T' { g with pc := g.pc + 3, stack := v.toList ++ rest }) : own_Go p e below P T g := by
  obtain ⟨cq, kq, qa, qb, qc⟩ := isOf hZ eT E
  obtain ⟨v, _, ⟨T1, L1, k1, n1⟩, -, X1, ⟨Lc, hQ, l1, y1, z1⟩, st⟩ := X.virtualBack hx (y := y) (z := y) hown (mvT hZ w1) (mvT hZ w2) (notFace_of_selects (args := #[]) (mvT hZ w3)) (mvT hZ w3) (mvT hZ w4) hy hK qa qc hg hsize (Steps.refl _) hlen hstack hW hd (fun _ _ => ⟨ha, eT, hc, hs⟩)
  dsimp only [Pt.U, Pt.locs, Pt.cells, Pt.slots] at X1 l1 y1 z1 st hQ
  subst l1 y1 z1
  exact own_tr st (k v T1 Lc X1 hQ)
theorem own_cat {v : Value} (h : v.isRef = true) : v.category = 1 := by cases v <;> simp [Value.isRef, Value.category] at h ⊢
end OwnGo
end Jvm.RoadKit
namespace Jvm.Pilot.@@N@@
open Jvm Jvm.ClassFile Sem Op Lib Jvm.Free Jvm.Stand Jvm.LawKit Jvm.RoadKit Bundle Jvm.Pilot.@@N@@.Jvm.D
def own_min (a b : Int32) : Int32 := if b < a then b else a
def own_max (a b : Int32) : Int32 := if a < b then b else a
theorem own_min_i (a b : Int32) : (own_min a b).toInt = min a.toInt b.toInt := by
  unfold own_min
  by_cases h : b < a
  · rw [if_pos h]; rw [Int32.lt_iff_toInt_lt] at h; omega
  · rw [if_neg h]; rw [Int32.lt_iff_toInt_lt] at h; omega
theorem own_max_i (a b : Int32) : (own_max a b).toInt = max a.toInt b.toInt := by
  unfold own_max
  by_cases h : a < b
  · rw [if_pos h]; rw [Int32.lt_iff_toInt_lt] at h; omega
  · rw [if_neg h]; rw [Int32.lt_iff_toInt_lt] at h; omega
theorem own_med (a b c : Int32) (h1 : ¬ own_min (own_min a b) c = a + b + c - own_min (own_min a b) c - own_max (own_max a b) c) (h2 : ¬ a + b + c - own_min (own_min a b) c - own_max (own_max a b) c = own_max (own_max a b) c) :
    own_min (own_min a b) c < a + b + c - own_min (own_min a b) c - own_max (own_max a b) c ∧ a + b + c - own_min (own_min a b) c - own_max (own_max a b) c < own_max (own_max a b) c := by
  have e1 := own_min_i a b
  have e2 := own_min_i (own_min a b) c
  have e3 := own_max_i a b
  have e4 := own_max_i (own_max a b) c
  have s1 := c_iadd a b
  have s2 := c_iadd (a + b) c
  have s3 := c_isub (a + b + c) (own_min (own_min a b) c)
  have s4 := c_isub (a + b + c - own_min (own_min a b) c) (own_max (own_max a b) c)
  have r1 := rng32 a
  have r2 := rng32 b
  have r3 := rng32 c
  have r4 := rng32 (a + b + c - own_min (own_min a b) c - own_max (own_max a b) c)
  simp only [Int32.lt_iff_toInt_lt, ← Int32.toInt_inj] at h1 h2 ⊢
  omega
theorem own_n3 (x : Int32) : (x &&& (3 : Int32)) = 0 ∨ (x &&& (3 : Int32)) = 1 ∨ (x &&& (3 : Int32)) = 2 ∨ (x &&& (3 : Int32)) = 3 := by
  obtain ⟨n, hn⟩ : ∃ n : Fin 4, x &&& (3 : Int32) = Int32.ofNat n.val := by
    refine ⟨⟨(x &&& 3).toBitVec.toNat, ?_⟩, ?_⟩
    · simp only [Int32.toBitVec_and, BitVec.toNat_and]
      exact Nat.lt_succ_of_le Nat.and_le_right
    · apply Int32.toBitVec_inj.mp
      show _ = BitVec.ofNat 32 _
      rw [BitVec.ofNat_toNat]; simp
  rw [hn]; clear hn; revert n; decide
theorem dmin_0 : decode jdk_29_method_69_code 0 = .ok (.iload_n 0, 1) := by decide +kernel
theorem dmin_1 : decode jdk_29_method_69_code 1 = .ok (.iload_n 1, 1) := by decide +kernel
theorem dmin_2 : decode jdk_29_method_69_code 2 = .ok (.if_icmp .gt 7, 3) := by decide +kernel
theorem dmin_5 : decode jdk_29_method_69_code 5 = .ok (.iload_n 0, 1) := by decide +kernel
theorem dmin_6 : decode jdk_29_method_69_code 6 = .ok (.goto 4, 3) := by decide +kernel
theorem dmin_9 : decode jdk_29_method_69_code 9 = .ok (.iload_n 1, 1) := by decide +kernel
theorem dmin_10 : decode jdk_29_method_69_code 10 = .ok (.ireturn, 1) := by decide +kernel
theorem efmin (m : MethodId) (x0 : Int32) (x1 : Int32) : entryFrame m #[(.int x0), (.int x1)] 2 = mkF m 0 #[.val (.int x0), .val (.int x1)] [] := by first | (simp [entryFrame, mkF, argsToLocals, Value.category]; done) | rfl
set_option maxRecDepth 65536 in
set_option maxHeartbeats 40000000 in
theorem rm_min (l : Launch) (Z : State) (a0 : Array Value) (hw : ∀ d ∈ tables_1, d.before a0 Z = true) (ws : List Jvm.Cond) (p1 : Int32) (p2 : Int32) (h0 : Heap) (n0 : Nat) (Z0 : n0 ≤ h0.size) :
    own_Met l Z ws (⟨"java/lang/Math", "min", "(II)I"⟩ : MethodName) jdk_29_method_69_code 2 (some .int) ({ frames := 0, cells := 0, slots := 0, locals := 0 } : Room) #[(.int p1), (.int p2)] h0 (fun v h L => v = some (.int (own_min p1 p2)) ∧ Fr n0 L ∧ h = h0) := by
  refine own_body (Jvm.Free.JP.mathPlain rfl (by decide +kernel)) ?_
  intro p e s m below meth c s₁ hx hby hml hret hlk hown hnm hZ X0 e0
  have hml : c.maxLocals = 2 := hml
  have hown : s.vm.findClass "java/lang/Math" = some m.cls := hown
  have N0 := Fr.nil n0
  refine own_cast (efmin m p1 p2) ?_
  show own_Go p e below _ s₁ (mkF m 0 #[.val (.int p1), .val (.int p2)] [])
  refine own_st (fun t k => XS.iloadN X0.here hx rfl (hb hby dmin_0) rfl  k) ?_
  show own_Go p e below _ s₁ (mkF m 1 #[.val (.int p1), .val (.int p2)] [(.int p1)])
  refine own_st (fun t k => XS.iloadN X0.here hx rfl (hb hby dmin_1) rfl  k) ?_
  show own_Go p e below _ s₁ (mkF m 2 #[.val (.int p1), .val (.int p2)] [(.int p2), (.int p1)])
  by_cases hc : p2 < p1
  · refine own_st (fun t k => XS.icmpYes X0.here hx rfl (pc0 := 2) (pc' := 9) rfl (hb hby dmin_2) rfl (tlt hc).2.2.1 (by decide) (by decide) k) ?_
    show own_Go p e below _ s₁ (mkF m 9 #[.val (.int p1), .val (.int p2)] [])
    refine own_st (fun t k => XS.iloadN X0.here hx rfl (hb hby dmin_9) rfl  k) ?_
    show own_Go p e below _ s₁ (mkF m 10 #[.val (.int p1), .val (.int p2)] [(.int p2)])
    refine own_retI X0 hx hlk hret (hb hby dmin_10) ?_ (by decide) (by decide)
    rw [e0]
    exact ⟨by rw [own_min, if_pos hc], N0, rfl⟩
  · refine own_st (fun t k => XS.icmpNo X0.here hx rfl (hb hby dmin_2) rfl (flt hc).2.2.1 k) ?_
    show own_Go p e below _ s₁ (mkF m 5 #[.val (.int p1), .val (.int p2)] [])
    refine own_st (fun t k => XS.iloadN X0.here hx rfl (hb hby dmin_5) rfl  k) ?_
    show own_Go p e below _ s₁ (mkF m 6 #[.val (.int p1), .val (.int p2)] [(.int p1)])
    refine own_st (fun t k => XS.goto X0.here hx rfl (pc0 := 6) (pc' := 10) rfl (hb hby dmin_6) (by decide) (by decide) k) ?_
    show own_Go p e below _ s₁ (mkF m 10 #[.val (.int p1), .val (.int p2)] [(.int p1)])
    refine own_retI X0 hx hlk hret (hb hby dmin_10) ?_ (by decide) (by decide)
    rw [e0]
    exact ⟨by rw [own_min, if_neg hc], N0, rfl⟩
theorem dmax_0 : decode jdk_29_method_65_code 0 = .ok (.iload_n 0, 1) := by decide +kernel
theorem dmax_1 : decode jdk_29_method_65_code 1 = .ok (.iload_n 1, 1) := by decide +kernel
theorem dmax_2 : decode jdk_29_method_65_code 2 = .ok (.if_icmp .lt 7, 3) := by decide +kernel
theorem dmax_5 : decode jdk_29_method_65_code 5 = .ok (.iload_n 0, 1) := by decide +kernel
theorem dmax_6 : decode jdk_29_method_65_code 6 = .ok (.goto 4, 3) := by decide +kernel
theorem dmax_9 : decode jdk_29_method_65_code 9 = .ok (.iload_n 1, 1) := by decide +kernel
theorem dmax_10 : decode jdk_29_method_65_code 10 = .ok (.ireturn, 1) := by decide +kernel
theorem efmax (m : MethodId) (x0 : Int32) (x1 : Int32) : entryFrame m #[(.int x0), (.int x1)] 2 = mkF m 0 #[.val (.int x0), .val (.int x1)] [] := by first | (simp [entryFrame, mkF, argsToLocals, Value.category]; done) | rfl
set_option maxRecDepth 65536 in
set_option maxHeartbeats 40000000 in
theorem rm_max (l : Launch) (Z : State) (a0 : Array Value) (hw : ∀ d ∈ tables_1, d.before a0 Z = true) (ws : List Jvm.Cond) (p1 : Int32) (p2 : Int32) (h0 : Heap) (n0 : Nat) (Z0 : n0 ≤ h0.size) :
    own_Met l Z ws (⟨"java/lang/Math", "max", "(II)I"⟩ : MethodName) jdk_29_method_65_code 2 (some .int) ({ frames := 0, cells := 0, slots := 0, locals := 0 } : Room) #[(.int p1), (.int p2)] h0 (fun v h L => v = some (.int (own_max p1 p2)) ∧ Fr n0 L ∧ h = h0) := by
  refine own_body (Jvm.Free.JP.mathPlain rfl (by decide +kernel)) ?_
  intro p e s m below meth c s₁ hx hby hml hret hlk hown hnm hZ X0 e0
  have hml : c.maxLocals = 2 := hml
  have hown : s.vm.findClass "java/lang/Math" = some m.cls := hown
  have N0 := Fr.nil n0
  refine own_cast (efmax m p1 p2) ?_
  show own_Go p e below _ s₁ (mkF m 0 #[.val (.int p1), .val (.int p2)] [])
  refine own_st (fun t k => XS.iloadN X0.here hx rfl (hb hby dmax_0) rfl  k) ?_
  show own_Go p e below _ s₁ (mkF m 1 #[.val (.int p1), .val (.int p2)] [(.int p1)])
  refine own_st (fun t k => XS.iloadN X0.here hx rfl (hb hby dmax_1) rfl  k) ?_
  show own_Go p e below _ s₁ (mkF m 2 #[.val (.int p1), .val (.int p2)] [(.int p2), (.int p1)])
  by_cases hc : p1 < p2
  · refine own_st (fun t k => XS.icmpYes X0.here hx rfl (pc0 := 2) (pc' := 9) rfl (hb hby dmax_2) rfl (tlt hc).1 (by decide) (by decide) k) ?_
    show own_Go p e below _ s₁ (mkF m 9 #[.val (.int p1), .val (.int p2)] [])
    refine own_st (fun t k => XS.iloadN X0.here hx rfl (hb hby dmax_9) rfl  k) ?_
    show own_Go p e below _ s₁ (mkF m 10 #[.val (.int p1), .val (.int p2)] [(.int p2)])
    refine own_retI X0 hx hlk hret (hb hby dmax_10) ?_ (by decide) (by decide)
    rw [e0]
    exact ⟨by rw [own_max, if_pos hc], N0, rfl⟩
  · refine own_st (fun t k => XS.icmpNo X0.here hx rfl (hb hby dmax_2) rfl (flt hc).1 k) ?_
    show own_Go p e below _ s₁ (mkF m 5 #[.val (.int p1), .val (.int p2)] [])
    refine own_st (fun t k => XS.iloadN X0.here hx rfl (hb hby dmax_5) rfl  k) ?_
    show own_Go p e below _ s₁ (mkF m 6 #[.val (.int p1), .val (.int p2)] [(.int p1)])
    refine own_st (fun t k => XS.goto X0.here hx rfl (pc0 := 6) (pc' := 10) rfl (hb hby dmax_6) (by decide) (by decide) k) ?_
    show own_Go p e below _ s₁ (mkF m 10 #[.val (.int p1), .val (.int p2)] [(.int p1)])
    refine own_retI X0 hx hlk hret (hb hby dmax_10) ?_ (by decide) (by decide)
    rw [e0]
    exact ⟨by rw [own_max, if_neg hc], N0, rfl⟩
theorem dbz0_0 : decode jdk_65_method_59_code 0 = .ok (.iload_n 1, 1) := by decide +kernel
theorem dbz0_1 : decode jdk_65_method_59_code 1 = .ok (.istore 4, 2) := by decide +kernel
theorem dbz0_3 : decode jdk_65_method_59_code 3 = .ok (.iload_n 2, 1) := by decide +kernel
theorem dbz0_4 : decode jdk_65_method_59_code 4 = .ok (.iconst 1, 1) := by decide +kernel
theorem dbz0_5 : decode jdk_65_method_59_code 5 = .ok (.isub, 1) := by decide +kernel
theorem dbz0_6 : decode jdk_65_method_59_code 6 = .ok (.istore 5, 2) := by decide +kernel
theorem dbz0_8 : decode jdk_65_method_59_code 8 = .ok (.iload 4, 2) := by decide +kernel
theorem dbz0_10 : decode jdk_65_method_59_code 10 = .ok (.iload 5, 2) := by decide +kernel
theorem dbz0_12 : decode jdk_65_method_59_code 12 = .ok (.if_icmp .gt 54, 3) := by decide +kernel
theorem dbz0_15 : decode jdk_65_method_59_code 15 = .ok (.iload 4, 2) := by decide +kernel
theorem dbz0_17 : decode jdk_65_method_59_code 17 = .ok (.iload 5, 2) := by decide +kernel
theorem dbz0_19 : decode jdk_65_method_59_code 19 = .ok (.iadd, 1) := by decide +kernel
theorem dbz0_20 : decode jdk_65_method_59_code 20 = .ok (.iconst 1, 1) := by decide +kernel
theorem dbz0_21 : decode jdk_65_method_59_code 21 = .ok (.iushr, 1) := by decide +kernel
theorem dbz0_22 : decode jdk_65_method_59_code 22 = .ok (.istore 6, 2) := by decide +kernel
theorem dbz0_24 : decode jdk_65_method_59_code 24 = .ok (.aload_n 0, 1) := by decide +kernel
theorem dbz0_25 : decode jdk_65_method_59_code 25 = .ok (.iload 6, 2) := by decide +kernel
theorem dbz0_27 : decode jdk_65_method_59_code 27 = .ok (.iaload, 1) := by decide +kernel
theorem dbz0_28 : decode jdk_65_method_59_code 28 = .ok (.istore 7, 2) := by decide +kernel
theorem dbz0_30 : decode jdk_65_method_59_code 30 = .ok (.iload 7, 2) := by decide +kernel
theorem dbz0_32 : decode jdk_65_method_59_code 32 = .ok (.iload_n 3, 1) := by decide +kernel
theorem dbz0_33 : decode jdk_65_method_59_code 33 = .ok (.if_icmp .ge 12, 3) := by decide +kernel
theorem dbz0_36 : decode jdk_65_method_59_code 36 = .ok (.iload 6, 2) := by decide +kernel
theorem dbz0_38 : decode jdk_65_method_59_code 38 = .ok (.iconst 1, 1) := by decide +kernel
theorem dbz0_39 : decode jdk_65_method_59_code 39 = .ok (.iadd, 1) := by decide +kernel
theorem dbz0_40 : decode jdk_65_method_59_code 40 = .ok (.istore 4, 2) := by decide +kernel
theorem dbz0_42 : decode jdk_65_method_59_code 42 = .ok (.goto 21, 3) := by decide +kernel
theorem dbz0_45 : decode jdk_65_method_59_code 45 = .ok (.iload 7, 2) := by decide +kernel
theorem dbz0_47 : decode jdk_65_method_59_code 47 = .ok (.iload_n 3, 1) := by decide +kernel
theorem dbz0_48 : decode jdk_65_method_59_code 48 = .ok (.if_icmp .le 12, 3) := by decide +kernel
theorem dbz0_51 : decode jdk_65_method_59_code 51 = .ok (.iload 6, 2) := by decide +kernel
theorem dbz0_53 : decode jdk_65_method_59_code 53 = .ok (.iconst 1, 1) := by decide +kernel
theorem dbz0_54 : decode jdk_65_method_59_code 54 = .ok (.isub, 1) := by decide +kernel
theorem dbz0_55 : decode jdk_65_method_59_code 55 = .ok (.istore 5, 2) := by decide +kernel
theorem dbz0_57 : decode jdk_65_method_59_code 57 = .ok (.goto 6, 3) := by decide +kernel
theorem dbz0_60 : decode jdk_65_method_59_code 60 = .ok (.iload 6, 2) := by decide +kernel
theorem dbz0_62 : decode jdk_65_method_59_code 62 = .ok (.ireturn, 1) := by decide +kernel
theorem dbz0_63 : decode jdk_65_method_59_code 63 = .ok (.goto (-55), 3) := by decide +kernel
theorem dbz0_66 : decode jdk_65_method_59_code 66 = .ok (.iload 4, 2) := by decide +kernel
theorem dbz0_68 : decode jdk_65_method_59_code 68 = .ok (.iconst 1, 1) := by decide +kernel
theorem dbz0_69 : decode jdk_65_method_59_code 69 = .ok (.iadd, 1) := by decide +kernel
theorem dbz0_70 : decode jdk_65_method_59_code 70 = .ok (.ineg, 1) := by decide +kernel
theorem dbz0_71 : decode jdk_65_method_59_code 71 = .ok (.ireturn, 1) := by decide +kernel
theorem pn_0 : plainName "java/util/Arrays" = true := by first | (simp [plainName, overriddenIn]; done) | decide +kernel
theorem efbz0 (m : MethodId) (x0 : Addr) (x1 : Int32) (x2 : Int32) (x3 : Int32) : entryFrame m #[(.ref x0), (.int x1), (.int x2), (.int x3)] 8 = mkF m 0 #[.val (.ref x0), .val (.int x1), .val (.int x2), .val (.int x3), .unset, .unset, .unset, .unset] [] := by first | (simp [entryFrame, mkF, argsToLocals, Value.category]; done) | rfl
set_option maxRecDepth 65536 in
set_option maxHeartbeats 40000000 in
theorem rm_bsz0 (l : Launch) (Z : State) (a0 : Array Value) (hw : ∀ d ∈ tables_1, d.before a0 Z = true) (ws : List Jvm.Cond) (a1 : Addr) (kk : ClassId) (key : Int32) (h0 : Heap) (n0 : Nat) (Z0 : n0 ≤ h0.size) (V1 : Arv Z h0 a1 kk .int (0 : Int32) [] (.int (0 : Int32))) :
    own_Met l Z ws (⟨"java/util/Arrays", "binarySearch0", "([IIII)I"⟩ : MethodName) jdk_65_method_59_code 8 (some .int) ({ frames := 0, cells := 0, slots := 0, locals := 0 } : Room) #[(.ref a1), (.int (0 : Int32)), (.int (0 : Int32)), (.int key)] h0 (fun v h L => ∃ r : Int32, v = some (.int r) ∧ ((r < 0)) ∧ Fr n0 L ∧ h = h0) := by
  refine own_body (plainFor_of_name pn_0) ?_
  intro p e s m below meth c s₁ hx hby hml hret hlk hown hnm hZ X0 e0
  have hml : c.maxLocals = 8 := hml
  have hown : s.vm.findClass "java/util/Arrays" = some m.cls := hown
  have N0 := Fr.nil n0
  refine own_cast (efbz0 m a1 (0 : Int32) (0 : Int32) key) ?_
  show own_Go p e below _ s₁ (mkF m 0 #[.val (.ref a1), .val (.int (0 : Int32)), .val (.int (0 : Int32)), .val (.int key), .unset, .unset, .unset, .unset] [])
  refine own_st (fun t k => XS.iloadN X0.here hx rfl (hb hby dbz0_0) rfl  k) ?_
  show own_Go p e below _ s₁ (mkF m 1 #[.val (.ref a1), .val (.int (0 : Int32)), .val (.int (0 : Int32)), .val (.int key), .unset, .unset, .unset, .unset] [(.int (0 : Int32))])
  refine own_st (fun t k => XS.istore X0.here hx rfl (hb hby dbz0_1) rfl (l' := #[.val (.ref a1), .val (.int (0 : Int32)), .val (.int (0 : Int32)), .val (.int key), .val (.int (0 : Int32)), .unset, .unset, .unset]) rfl k) ?_
  show own_Go p e below _ s₁ (mkF m 3 #[.val (.ref a1), .val (.int (0 : Int32)), .val (.int (0 : Int32)), .val (.int key), .val (.int (0 : Int32)), .unset, .unset, .unset] [])
  refine own_st (fun t k => XS.iloadN X0.here hx rfl (hb hby dbz0_3) rfl  k) ?_
  show own_Go p e below _ s₁ (mkF m 4 #[.val (.ref a1), .val (.int (0 : Int32)), .val (.int (0 : Int32)), .val (.int key), .val (.int (0 : Int32)), .unset, .unset, .unset] [(.int (0 : Int32))])
  refine own_st (fun t k => XS.iconst X0.here hx rfl (hb hby dbz0_4) k) ?_
  show own_Go p e below _ s₁ (mkF m 5 #[.val (.ref a1), .val (.int (0 : Int32)), .val (.int (0 : Int32)), .val (.int key), .val (.int (0 : Int32)), .unset, .unset, .unset] [(.int (1 : Int32)), (.int (0 : Int32))])
  refine own_st (fun t k => XS.isub X0.here hx rfl (hb hby dbz0_5) rfl k) ?_
  show own_Go p e below _ s₁ (mkF m 6 #[.val (.ref a1), .val (.int (0 : Int32)), .val (.int (0 : Int32)), .val (.int key), .val (.int (0 : Int32)), .unset, .unset, .unset] [(.int ((0 : Int32) - (1 : Int32)))])
  show own_Go p e below _ s₁ (mkF m 6 #[.val (.ref a1), .val (.int (0 : Int32)), .val (.int (0 : Int32)), .val (.int key), .val (.int (0 : Int32)), .unset, .unset, .unset] [(.int (-1 : Int32))])
  refine own_st (fun t k => XS.istore X0.here hx rfl (hb hby dbz0_6) rfl (l' := #[.val (.ref a1), .val (.int (0 : Int32)), .val (.int (0 : Int32)), .val (.int key), .val (.int (0 : Int32)), .val (.int (-1 : Int32)), .unset, .unset]) rfl k) ?_
  show own_Go p e below _ s₁ (mkF m 8 #[.val (.ref a1), .val (.int (0 : Int32)), .val (.int (0 : Int32)), .val (.int key), .val (.int (0 : Int32)), .val (.int (-1 : Int32)), .unset, .unset] [])
  refine own_st (fun t k => XS.iload X0.here hx rfl (hb hby dbz0_8) rfl  k) ?_
  show own_Go p e below _ s₁ (mkF m 10 #[.val (.ref a1), .val (.int (0 : Int32)), .val (.int (0 : Int32)), .val (.int key), .val (.int (0 : Int32)), .val (.int (-1 : Int32)), .unset, .unset] [(.int (0 : Int32))])
  refine own_st (fun t k => XS.iload X0.here hx rfl (hb hby dbz0_10) rfl  k) ?_
  show own_Go p e below _ s₁ (mkF m 12 #[.val (.ref a1), .val (.int (0 : Int32)), .val (.int (0 : Int32)), .val (.int key), .val (.int (0 : Int32)), .val (.int (-1 : Int32)), .unset, .unset] [(.int (-1 : Int32)), (.int (0 : Int32))])
  refine own_st (fun t k => XS.icmpYes X0.here hx rfl (pc0 := 12) (pc' := 66) rfl (hb hby dbz0_12) rfl (tlt (by decide : (-1 : Int32) < (0 : Int32))).2.2.1 (by decide) (by decide) k) ?_
  show own_Go p e below _ s₁ (mkF m 66 #[.val (.ref a1), .val (.int (0 : Int32)), .val (.int (0 : Int32)), .val (.int key), .val (.int (0 : Int32)), .val (.int (-1 : Int32)), .unset, .unset] [])
  refine own_st (fun t k => XS.iload X0.here hx rfl (hb hby dbz0_66) rfl  k) ?_
  show own_Go p e below _ s₁ (mkF m 68 #[.val (.ref a1), .val (.int (0 : Int32)), .val (.int (0 : Int32)), .val (.int key), .val (.int (0 : Int32)), .val (.int (-1 : Int32)), .unset, .unset] [(.int (0 : Int32))])
  refine own_st (fun t k => XS.iconst X0.here hx rfl (hb hby dbz0_68) k) ?_
  show own_Go p e below _ s₁ (mkF m 69 #[.val (.ref a1), .val (.int (0 : Int32)), .val (.int (0 : Int32)), .val (.int key), .val (.int (0 : Int32)), .val (.int (-1 : Int32)), .unset, .unset] [(.int (1 : Int32)), (.int (0 : Int32))])
  refine own_st (fun t k => XS.iadd X0.here hx rfl (hb hby dbz0_69) rfl k) ?_
  show own_Go p e below _ s₁ (mkF m 70 #[.val (.ref a1), .val (.int (0 : Int32)), .val (.int (0 : Int32)), .val (.int key), .val (.int (0 : Int32)), .val (.int (-1 : Int32)), .unset, .unset] [(.int ((0 : Int32) + (1 : Int32)))])
  refine own_st (fun t k => XS.ineg X0.here hx rfl (hb hby dbz0_70) rfl k) ?_
  show own_Go p e below _ s₁ (mkF m 71 #[.val (.ref a1), .val (.int (0 : Int32)), .val (.int (0 : Int32)), .val (.int key), .val (.int (0 : Int32)), .val (.int (-1 : Int32)), .unset, .unset] [(.int (-((0 : Int32) + (1 : Int32))))])
  refine own_retI X0 hx hlk hret (hb hby dbz0_71) ?_ (by decide) (by decide)
  rw [e0]
  exact ⟨_, rfl, ((by decide)), N0, rfl⟩
theorem dbs0_0 : decode jdk_65_method_57_code 0 = .ok (.aload_n 0, 1) := by decide +kernel
theorem dbs0_1 : decode jdk_65_method_57_code 1 = .ok (.iconst 0, 1) := by decide +kernel
theorem dbs0_2 : decode jdk_65_method_57_code 2 = .ok (.aload_n 0, 1) := by decide +kernel
theorem dbs0_3 : decode jdk_65_method_57_code 3 = .ok (.arraylength, 1) := by decide +kernel
theorem dbs0_4 : decode jdk_65_method_57_code 4 = .ok (.iload_n 1, 1) := by decide +kernel
theorem dbs0_5 : decode jdk_65_method_57_code 5 = .ok (.invokestatic 209, 3) := by decide +kernel
theorem dbs0_8 : decode jdk_65_method_57_code 8 = .ok (.ireturn, 1) := by decide +kernel
theorem efbs0 (m : MethodId) (x0 : Addr) (x1 : Int32) : entryFrame m #[(.ref x0), (.int x1)] 2 = mkF m 0 #[.val (.ref x0), .val (.int x1)] [] := by first | (simp [entryFrame, mkF, argsToLocals, Value.category]; done) | rfl
theorem pd_0 : parseMethodDescriptor "([IIII)I" = some ⟨[(.array .int), .int, .int, .int], some .int⟩ := by decide +kernel
set_option maxRecDepth 65536 in
set_option maxHeartbeats 40000000 in
theorem rm_bs0 (l : Launch) (Z : State) (a0 : Array Value) (hw : ∀ d ∈ tables_1, d.before a0 Z = true) (ws : List Jvm.Cond) (a1 : Addr) (kk : ClassId) (key : Int32) (h0 : Heap) (n0 : Nat) (Z0 : n0 ≤ h0.size) (V1 : Arv Z h0 a1 kk .int (0 : Int32) [] (.int (0 : Int32))) :
    own_Met l Z ws (⟨"java/util/Arrays", "binarySearch", "([II)I"⟩ : MethodName) jdk_65_method_57_code 2 (some .int) ({ frames := 1, cells := 0, slots := 0, locals := 20 } : Room) #[(.ref a1), (.int key)] h0 (fun v h L => ∃ r : Int32, v = some (.int r) ∧ ((r < 0)) ∧ Fr n0 L ∧ h = h0) := by
  refine own_body (plainFor_of_name pn_0) ?_
  intro p e s m below meth c s₁ hx hby hml hret hlk hown hnm hZ X0 e0
  have hml : c.maxLocals = 2 := hml
  have hown : s.vm.findClass "java/util/Arrays" = some m.cls := hown
  have N0 := Fr.nil n0
  refine own_cast (efbs0 m a1 key) ?_
  show own_Go p e below _ s₁ (mkF m 0 #[.val (.ref a1), .val (.int key)] [])
  refine own_st (fun t k => XS.aloadN X0.here hx rfl (hb hby dbs0_0) rfl rfl k) ?_
  show own_Go p e below _ s₁ (mkF m 1 #[.val (.ref a1), .val (.int key)] [(.ref a1)])
  refine own_st (fun t k => XS.iconst X0.here hx rfl (hb hby dbs0_1) k) ?_
  show own_Go p e below _ s₁ (mkF m 2 #[.val (.ref a1), .val (.int key)] [(.int (0 : Int32)), (.ref a1)])
  refine own_st (fun t k => XS.aloadN X0.here hx rfl (hb hby dbs0_2) rfl rfl k) ?_
  show own_Go p e below _ s₁ (mkF m 3 #[.val (.ref a1), .val (.int key)] [(.ref a1), (.int (0 : Int32)), (.ref a1)])
  obtain ⟨cl3, Ar3, -, S3, M3, -, -⟩ := id V1
  refine own_st (X0.arraylength hx (by rw [e0]; exact Ar3.1) (State.isArrayOf_alike hZ.alike Ar3.2.1) (g := (mkF m 3 #[.val (.ref a1), .val (.int key)] [(.ref a1), (.int (0 : Int32)), (.ref a1)])) rfl rfl (hb hby dbs0_3)) ?_
  rw [len_of S3 M3]
  show own_Go p e below _ s₁ (mkF m 4 #[.val (.ref a1), .val (.int key)] [(.int (0 : Int32)), (.int (0 : Int32)), (.ref a1)])
  refine own_st (fun t k => XS.iloadN X0.here hx rfl (hb hby dbs0_4) rfl  k) ?_
  show own_Go p e below _ s₁ (mkF m 5 #[.val (.ref a1), .val (.int key)] [(.int key), (.int (0 : Int32)), (.int (0 : Int32)), (.ref a1)])
  refine own_callS X0 hx hZ (y := (⟨"java/util/Arrays", "binarySearch0", "([IIII)I"⟩ : MethodName)) (W := 0) (kc := 0) (ks := 0) hown (hw _ (List.mem_of_getElem? (i := 37) rfl)) (hw _ (List.mem_of_getElem? (i := 38) rfl)) (hw _ (List.mem_of_getElem? (i := 35) rfl)) (hw _ (List.mem_of_getElem? (i := 39) rfl)) (own_back (W := 0) (rm_bsz0 l Z a0 hw [] a1 kk  key h0 n0 Z0 V1 ) hZ (hw _ (List.mem_of_getElem? (i := 39) rfl)) (hw _ (List.mem_of_getElem? (i := 35) rfl)) (by decide) (by decide)) (by decide) (g := (mkF m 5 #[.val (.ref a1), .val (.int key)] [(.int key), (.int (0 : Int32)), (.int (0 : Int32)), (.ref a1)])) rfl (by rw [hml]; rfl) (argsL := [(.ref a1), (.int (0 : Int32)), (.int (0 : Int32)), (.int key)]) (rest := []) (lenOf pd_0 rfl) rfl (by show 2 * 0 + _ ≤ _; exact Nat.le_of_eq rfl) (hb hby dbs0_5) rfl e0 (by decide) (by decide) (fun v5 T5 L5 X5 hQ5 => ?_)
  obtain ⟨r, rfl, hr, M5, e5⟩ := hQ5
  show own_Go p e below _ T5 (mkF m 8 #[.val (.ref a1), .val (.int key)] [(.int r)])
  refine own_retI X5 hx hlk hret (hb hby dbs0_8) ?_ (by decide) (by decide)
  rw [e5]
  exact ⟨_, rfl, hr, Fr.app N0 M5, rfl⟩
theorem dix0_0 : decode prog_44_method_8_code 0 = .ok (.aload_n 0, 1) := by decide +kernel
theorem dix0_1 : decode prog_44_method_8_code 1 = .ok (.getfield 7, 3) := by decide +kernel
theorem dix0_4 : decode prog_44_method_8_code 4 = .ok (.iload_n 1, 1) := by decide +kernel
theorem dix0_5 : decode prog_44_method_8_code 5 = .ok (.invokestatic 27, 3) := by decide +kernel
theorem dix0_8 : decode prog_44_method_8_code 8 = .ok (.istore_n 2, 1) := by decide +kernel
theorem dix0_9 : decode prog_44_method_8_code 9 = .ok (.iload_n 2, 1) := by decide +kernel
theorem dix0_10 : decode prog_44_method_8_code 10 = .ok (.ifCond .ge 7, 3) := by decide +kernel
theorem dix0_13 : decode prog_44_method_8_code 13 = .ok (.iconst (-1), 1) := by decide +kernel
theorem dix0_14 : decode prog_44_method_8_code 14 = .ok (.goto 4, 3) := by decide +kernel
theorem dix0_17 : decode prog_44_method_8_code 17 = .ok (.iload_n 2, 1) := by decide +kernel
theorem dix0_18 : decode prog_44_method_8_code 18 = .ok (.ireturn, 1) := by decide +kernel
theorem pn_1 : plainName "com/example/rank3/rank3/text/Postings" = true := by first | (simp [plainName, overriddenIn]; done) | decide +kernel
theorem efix0 (m : MethodId) (x0 : Addr) (x1 : Int32) : entryFrame m #[(.ref x0), (.int x1)] 3 = mkF m 0 #[.val (.ref x0), .val (.int x1), .unset] [] := by first | (simp [entryFrame, mkF, argsToLocals, Value.category]; done) | rfl
theorem pd_1 : parseMethodDescriptor "([II)I" = some ⟨[(.array .int), .int], some .int⟩ := by decide +kernel
set_option maxRecDepth 65536 in
set_option maxHeartbeats 40000000 in
theorem rm_ix0 (l : Launch) (Z : State) (a0 : Array Value) (hw : ∀ d ∈ tables_1, d.before a0 Z = true) (ws : List Jvm.Cond) (o1 : Addr) (a1 : Addr) (kk : ClassId) (key : Int32) (h0 : Heap) (n0 : Nat) (Z0 : n0 ≤ h0.size) (F1 : Fld Z h0 o1 "com/example/rank3/rank3/text/Postings" "resources" "[I" (.ref a1)) (V1 : Arv Z h0 a1 kk .int (0 : Int32) [] (.int (0 : Int32))) :
    own_Met l Z ws (⟨"com/example/rank3/rank3/text/Postings", "indexOf", "(I)I"⟩ : MethodName) prog_44_method_8_code 3 (some .int) ({ frames := 2, cells := 0, slots := 0, locals := 40 } : Room) #[(.ref o1), (.int key)] h0 (fun v h L => ∃ r : Int32, v = some (.int r) ∧ ((r = -1)) ∧ Fr n0 L ∧ h = h0) := by
  refine own_body (plainFor_of_name pn_1) ?_
  intro p e s m below meth c s₁ hx hby hml hret hlk hown hnm hZ X0 e0
  have hml : c.maxLocals = 3 := hml
  have hown : s.vm.findClass "com/example/rank3/rank3/text/Postings" = some m.cls := hown
  have N0 := Fr.nil n0
  refine own_cast (efix0 m o1 key) ?_
  show own_Go p e below _ s₁ (mkF m 0 #[.val (.ref o1), .val (.int key), .unset] [])
  refine own_st (fun t k => XS.aloadN X0.here hx rfl (hb hby dix0_0) rfl rfl k) ?_
  show own_Go p e below _ s₁ (mkF m 1 #[.val (.ref o1), .val (.int key), .unset] [(.ref o1)])
  obtain ⟨T1, X1, e1, st1⟩ := getF X0 hx hZ hown (host := "") (Or.inl (hw _ (List.mem_of_getElem? (i := 18) rfl))) Via.refl e0 F1 (g := (mkF m 1 #[.val (.ref o1), .val (.int key), .unset] [(.ref o1)])) rfl rfl (hb hby dix0_1)
  refine own_st st1 ?_
  show own_Go p e below _ T1 (mkF m 4 #[.val (.ref o1), .val (.int key), .unset] [(.ref a1)])
  refine own_st (fun t k => XS.iloadN X1.here hx rfl (hb hby dix0_4) rfl  k) ?_
  show own_Go p e below _ T1 (mkF m 5 #[.val (.ref o1), .val (.int key), .unset] [(.int key), (.ref a1)])
  refine own_callS X1 hx hZ (y := (⟨"java/util/Arrays", "binarySearch", "([II)I"⟩ : MethodName)) (W := 0) (kc := 0) (ks := 0) hown (hw _ (List.mem_of_getElem? (i := 33) rfl)) (hw _ (List.mem_of_getElem? (i := 34) rfl)) (hw _ (List.mem_of_getElem? (i := 35) rfl)) (hw _ (List.mem_of_getElem? (i := 36) rfl)) (own_back (W := 0) (rm_bs0 l Z a0 hw [] a1 kk  key h0 n0 Z0 V1 ) hZ (hw _ (List.mem_of_getElem? (i := 36) rfl)) (hw _ (List.mem_of_getElem? (i := 35) rfl)) (by decide) (by decide)) (by decide) (g := (mkF m 5 #[.val (.ref o1), .val (.int key), .unset] [(.int key), (.ref a1)])) rfl (by rw [hml]; rfl) (argsL := [(.ref a1), (.int key)]) (rest := []) (lenOf pd_1 rfl) rfl (by show 2 * 0 + _ ≤ _; exact Nat.le_of_eq rfl) (hb hby dix0_5) rfl e1 (by decide) (by decide) (fun v5 T5 L5 X5 hQ5 => ?_)
  obtain ⟨r, rfl, hr, M5, e5⟩ := hQ5
  show own_Go p e below _ T5 (mkF m 8 #[.val (.ref o1), .val (.int key), .unset] [(.int r)])
  refine own_st (fun t k => XS.istoreN X5.here hx rfl (hb hby dix0_8) rfl (l' := #[.val (.ref o1), .val (.int key), .val (.int r)]) rfl k) ?_
  show own_Go p e below _ T5 (mkF m 9 #[.val (.ref o1), .val (.int key), .val (.int r)] [])
  refine own_st (fun t k => XS.iloadN X5.here hx rfl (hb hby dix0_9) rfl  k) ?_
  show own_Go p e below _ T5 (mkF m 10 #[.val (.ref o1), .val (.int key), .val (.int r)] [(.int r)])
  refine own_st (fun t k => XS.ifNo X5.here hx rfl (hb hby dix0_10) rfl ((if0 _ _).trans (tlt hr).2.1) k) ?_
  show own_Go p e below _ T5 (mkF m 13 #[.val (.ref o1), .val (.int key), .val (.int r)] [])
  refine own_st (fun t k => XS.iconst X5.here hx rfl (hb hby dix0_13) k) ?_
  show own_Go p e below _ T5 (mkF m 14 #[.val (.ref o1), .val (.int key), .val (.int r)] [(.int (-1 : Int32))])
  refine own_st (fun t k => XS.goto X5.here hx rfl (pc0 := 14) (pc' := 18) rfl (hb hby dix0_14) (by decide) (by decide) k) ?_
  show own_Go p e below _ T5 (mkF m 18 #[.val (.ref o1), .val (.int key), .val (.int r)] [(.int (-1 : Int32))])
  refine own_retI X5 hx hlk hret (hb hby dix0_18) ?_ (by decide) (by decide)
  rw [e5]
  exact ⟨_, rfl, (rfl), Fr.app N0 M5, rfl⟩
theorem din0_0 : decode prog_44_method_1_code 0 = .ok (.aload_n 0, 1) := by decide +kernel
theorem din0_1 : decode prog_44_method_1_code 1 = .ok (.invokespecial 1, 3) := by decide +kernel
theorem din0_4 : decode prog_44_method_1_code 4 = .ok (.aload_n 0, 1) := by decide +kernel
theorem din0_5 : decode prog_44_method_1_code 5 = .ok (.aload_n 1, 1) := by decide +kernel
theorem din0_6 : decode prog_44_method_1_code 6 = .ok (.putfield 7, 3) := by decide +kernel
theorem din0_9 : decode prog_44_method_1_code 9 = .ok (.aload_n 0, 1) := by decide +kernel
theorem din0_10 : decode prog_44_method_1_code 10 = .ok (.aload_n 2, 1) := by decide +kernel
theorem din0_11 : decode prog_44_method_1_code 11 = .ok (.putfield 13, 3) := by decide +kernel
theorem din0_14 : decode prog_44_method_1_code 14 = .ok (.aload_n 0, 1) := by decide +kernel
theorem din0_15 : decode prog_44_method_1_code 15 = .ok (.aload_n 3, 1) := by decide +kernel
theorem din0_16 : decode prog_44_method_1_code 16 = .ok (.putfield 16, 3) := by decide +kernel
theorem din0_19 : decode prog_44_method_1_code 19 = .ok (.aload_n 0, 1) := by decide +kernel
theorem din0_20 : decode prog_44_method_1_code 20 = .ok (.aload 4, 2) := by decide +kernel
theorem din0_22 : decode prog_44_method_1_code 22 = .ok (.putfield 19, 3) := by decide +kernel
theorem din0_25 : decode prog_44_method_1_code 25 = .ok (.lconst 0, 1) := by decide +kernel
theorem din0_26 : decode prog_44_method_1_code 26 = .ok (.lstore 5, 2) := by decide +kernel
theorem din0_28 : decode prog_44_method_1_code 28 = .ok (.aload_n 3, 1) := by decide +kernel
theorem din0_29 : decode prog_44_method_1_code 29 = .ok (.astore 7, 2) := by decide +kernel
theorem din0_31 : decode prog_44_method_1_code 31 = .ok (.aload 7, 2) := by decide +kernel
theorem din0_33 : decode prog_44_method_1_code 33 = .ok (.arraylength, 1) := by decide +kernel
theorem din0_34 : decode prog_44_method_1_code 34 = .ok (.istore 8, 2) := by decide +kernel
theorem din0_36 : decode prog_44_method_1_code 36 = .ok (.iconst 0, 1) := by decide +kernel
theorem din0_37 : decode prog_44_method_1_code 37 = .ok (.istore 9, 2) := by decide +kernel
theorem din0_39 : decode prog_44_method_1_code 39 = .ok (.iload 9, 2) := by decide +kernel
theorem din0_41 : decode prog_44_method_1_code 41 = .ok (.iload 8, 2) := by decide +kernel
theorem din0_43 : decode prog_44_method_1_code 43 = .ok (.if_icmp .ge 24, 3) := by decide +kernel
theorem din0_46 : decode prog_44_method_1_code 46 = .ok (.aload 7, 2) := by decide +kernel
theorem din0_48 : decode prog_44_method_1_code 48 = .ok (.iload 9, 2) := by decide +kernel
theorem din0_50 : decode prog_44_method_1_code 50 = .ok (.iaload, 1) := by decide +kernel
theorem din0_51 : decode prog_44_method_1_code 51 = .ok (.istore 10, 2) := by decide +kernel
theorem din0_53 : decode prog_44_method_1_code 53 = .ok (.lload 5, 2) := by decide +kernel
theorem din0_55 : decode prog_44_method_1_code 55 = .ok (.iload 10, 2) := by decide +kernel
theorem din0_57 : decode prog_44_method_1_code 57 = .ok (.i2l, 1) := by decide +kernel
theorem din0_58 : decode prog_44_method_1_code 58 = .ok (.ladd, 1) := by decide +kernel
theorem din0_59 : decode prog_44_method_1_code 59 = .ok (.lstore 5, 2) := by decide +kernel
theorem din0_61 : decode prog_44_method_1_code 61 = .ok (.iinc 9 1, 3) := by decide +kernel
theorem din0_64 : decode prog_44_method_1_code 64 = .ok (.goto (-25), 3) := by decide +kernel
theorem din0_67 : decode prog_44_method_1_code 67 = .ok (.aload_n 0, 1) := by decide +kernel
theorem din0_68 : decode prog_44_method_1_code 68 = .ok (.lload 5, 2) := by decide +kernel
theorem din0_70 : decode prog_44_method_1_code 70 = .ok (.putfield 23, 3) := by decide +kernel
theorem din0_73 : decode prog_44_method_1_code 73 = .ok (.return_, 1) := by decide +kernel
theorem efin0 (m : MethodId) (x0 : Addr) (x1 : Addr) (x2 : Addr) (x3 : Addr) (x4 : Addr) : entryFrame m #[(.ref x0), (.ref x1), (.ref x2), (.ref x3), (.ref x4)] 11 = mkF m 0 #[.val (.ref x0), .val (.ref x1), .val (.ref x2), .val (.ref x3), .val (.ref x4), .unset, .unset, .unset, .unset, .unset, .unset] [] := by first | (simp [entryFrame, mkF, argsToLocals, Value.category]; done) | rfl
set_option maxRecDepth 65536 in
set_option maxHeartbeats 40000000 in
theorem rm_in0 (l : Launch) (Z : State) (a0 : Array Value) (hw : ∀ d ∈ tables_1, d.before a0 Z = true) (ws : List Jvm.Cond) (o1 : Addr) (r1 : Addr) (t1 : Addr) (c1 : Addr) (s1 : Addr) (kc : ClassId) (h0 : Heap) (n0 : Nat) (Z0 : n0 ≤ h0.size) (E1 : Exa Z h0 o1 "com/example/rank3/rank3/text/Postings") (F1_resources : Fld Z h0 o1 "com/example/rank3/rank3/text/Postings" "resources" "[I" .null) (F1_titleCounts : Fld Z h0 o1 "com/example/rank3/rank3/text/Postings" "titleCounts" "[I" .null) (F1_contentCounts : Fld Z h0 o1 "com/example/rank3/rank3/text/Postings" "contentCounts" "[I" .null) (F1_inStructure : Fld Z h0 o1 "com/example/rank3/rank3/text/Postings" "inStructure" "[Z" .null) (F1_collectionCount : Fld Z h0 o1 "com/example/rank3/rank3/text/Postings" "collectionCount" "J" (.long (0 : Int64))) (ge : n0 ≤ o1) (Vc : Arv Z h0 c1 kc .int (0 : Int32) [] (.int (0 : Int32))) (hne : c1 ≠ o1) :
    own_Met l Z ws (⟨"com/example/rank3/rank3/text/Postings", "<init>", "([I[I[I[Z)V"⟩ : MethodName) prog_44_method_1_code 11 none ({ frames := 1, cells := 0, slots := 0, locals := 12 } : Room) #[(.ref o1), (.ref r1), (.ref t1), (.ref c1), (.ref s1)] h0 (fun v h L => v = none ∧ Fr n0 L ∧ Keep h0 h [o1] ∧ Exa Z h o1 "com/example/rank3/rank3/text/Postings" ∧ Fld Z h o1 "com/example/rank3/rank3/text/Postings" "resources" "[I" (.ref r1)) := by
  refine own_body (plainFor_of_name pn_1) ?_
  intro p e s m below meth c s₁ hx hby hml hret hlk hown hnm hZ X0 e0
  have hml : c.maxLocals = 11 := hml
  have hown : s.vm.findClass "com/example/rank3/rank3/text/Postings" = some m.cls := hown
  have N0 := Fr.nil n0
  refine own_cast (efin0 m o1 r1 t1 c1 s1) ?_
  show own_Go p e below _ s₁ (mkF m 0 #[.val (.ref o1), .val (.ref r1), .val (.ref t1), .val (.ref c1), .val (.ref s1), .unset, .unset, .unset, .unset, .unset, .unset] [])
  refine own_st (fun t k => XS.aloadN X0.here hx rfl (hb hby din0_0) rfl rfl k) ?_
  show own_Go p e below _ s₁ (mkF m 1 #[.val (.ref o1), .val (.ref r1), .val (.ref t1), .val (.ref c1), .val (.ref s1), .unset, .unset, .unset, .unset, .unset, .unset] [(.ref o1)])
  obtain ⟨T1, X1, e1, st1⟩ := initO X0 hx hZ hown (hw _ (List.mem_of_getElem? (i := 15) rfl)) (hw _ (List.mem_of_getElem? (i := 16) rfl)) (hw _ (List.mem_of_getElem? (i := 17) rfl)) e0 (g := (mkF m 1 #[.val (.ref o1), .val (.ref r1), .val (.ref t1), .val (.ref c1), .val (.ref s1), .unset, .unset, .unset, .unset, .unset, .unset] [(.ref o1)])) rfl (by rw [hml]; rfl) rfl (hb hby din0_1) (by decide) (W := 0) (by show 2 * 0 + _ ≤ _; exact Nat.le_of_eq rfl) (by decide)
  refine own_st st1 ?_
  show own_Go p e below _ T1 (mkF m 4 #[.val (.ref o1), .val (.ref r1), .val (.ref t1), .val (.ref c1), .val (.ref s1), .unset, .unset, .unset, .unset, .unset, .unset] [])
  refine own_st (fun t k => XS.aloadN X1.here hx rfl (hb hby din0_4) rfl rfl k) ?_
  show own_Go p e below _ T1 (mkF m 5 #[.val (.ref o1), .val (.ref r1), .val (.ref t1), .val (.ref c1), .val (.ref s1), .unset, .unset, .unset, .unset, .unset, .unset] [(.ref o1)])
  refine own_st (fun t k => XS.aloadN X1.here hx rfl (hb hby din0_5) rfl rfl k) ?_
  show own_Go p e below _ T1 (mkF m 6 #[.val (.ref o1), .val (.ref r1), .val (.ref t1), .val (.ref c1), .val (.ref s1), .unset, .unset, .unset, .unset, .unset, .unset] [(.ref r1), (.ref o1)])
  obtain ⟨T6, h6, X6, e6, W6, st6⟩ := putF X1 hx hZ hown (host := "") (Or.inl (hw _ (List.mem_of_getElem? (i := 18) rfl))) Via.refl e1 F1_resources E1 (Or.inr ⟨(hw _ (List.mem_of_getElem? (i := 19) rfl)), rfl, hnm⟩) (hw _ (List.mem_of_getElem? (i := 9) rfl)) (ty := (.array .int)) (by decide) rfl rfl (g := (mkF m 6 #[.val (.ref o1), .val (.ref r1), .val (.ref t1), .val (.ref c1), .val (.ref s1), .unset, .unset, .unset, .unset, .unset, .unset] [(.ref r1), (.ref o1)])) rfl rfl (hb hby din0_6)
  refine own_st st6 ?_
  have N6 := Fr.snoc X6 N0 ge
  have E6_o := E1.wr W6
  have F6_resources := F1_resources.same W6
  have F6_titleCounts := F1_titleCounts.other W6 (Or.inr (slot_ne (Or.inr (hw _ (List.mem_of_getElem? (i := 21) rfl))) (Or.inr (hw _ (List.mem_of_getElem? (i := 19) rfl))) (by decide) (t := (.array .int)) (t' := (.array .int)) (by decide) (by decide)))
  have F6_contentCounts := F1_contentCounts.other W6 (Or.inr (slot_ne (Or.inr (hw _ (List.mem_of_getElem? (i := 23) rfl))) (Or.inr (hw _ (List.mem_of_getElem? (i := 19) rfl))) (by decide) (t := (.array .int)) (t' := (.array .int)) (by decide) (by decide)))
  have F6_inStructure := F1_inStructure.other W6 (Or.inr (slot_ne (Or.inr (hw _ (List.mem_of_getElem? (i := 25) rfl))) (Or.inr (hw _ (List.mem_of_getElem? (i := 19) rfl))) (by decide) (t := (.array .boolean)) (t' := (.array .int)) (by decide) (by decide)))
  have F6_collectionCount := F1_collectionCount.other W6 (Or.inr (slot_ne (Or.inr (hw _ (List.mem_of_getElem? (i := 27) rfl))) (Or.inr (hw _ (List.mem_of_getElem? (i := 19) rfl))) (by decide) (t := .long) (t' := (.array .int)) (by decide) (by decide)))
  have VC6 := Vc.other W6 hne
  have K6 : Keep h0 h6 [o1] := (Keep.refl h0 [o1]).wr W6 (Or.inl (List.mem_of_getElem? (i := 0) rfl))
  show own_Go p e below _ T6 (mkF m 9 #[.val (.ref o1), .val (.ref r1), .val (.ref t1), .val (.ref c1), .val (.ref s1), .unset, .unset, .unset, .unset, .unset, .unset] [])
  refine own_st (fun t k => XS.aloadN X6.here hx rfl (hb hby din0_9) rfl rfl k) ?_
  show own_Go p e below _ T6 (mkF m 10 #[.val (.ref o1), .val (.ref r1), .val (.ref t1), .val (.ref c1), .val (.ref s1), .unset, .unset, .unset, .unset, .unset, .unset] [(.ref o1)])
  refine own_st (fun t k => XS.aloadN X6.here hx rfl (hb hby din0_10) rfl rfl k) ?_
  show own_Go p e below _ T6 (mkF m 11 #[.val (.ref o1), .val (.ref r1), .val (.ref t1), .val (.ref c1), .val (.ref s1), .unset, .unset, .unset, .unset, .unset, .unset] [(.ref t1), (.ref o1)])
  obtain ⟨T11, h11, X11, e11, W11, st11⟩ := putF X6 hx hZ hown (host := "") (Or.inl (hw _ (List.mem_of_getElem? (i := 20) rfl))) Via.refl e6 F6_titleCounts E6_o (Or.inr ⟨(hw _ (List.mem_of_getElem? (i := 21) rfl)), rfl, hnm⟩) (hw _ (List.mem_of_getElem? (i := 9) rfl)) (ty := (.array .int)) (by decide) rfl rfl (g := (mkF m 11 #[.val (.ref o1), .val (.ref r1), .val (.ref t1), .val (.ref c1), .val (.ref s1), .unset, .unset, .unset, .unset, .unset, .unset] [(.ref t1), (.ref o1)])) rfl rfl (hb hby din0_11)
  refine own_st st11 ?_
  have N11 := Fr.snoc X11 N6 ge
  have E11_o := E6_o.wr W11
  have F11_resources := F6_resources.other W11 (Or.inr (slot_ne (Or.inr (hw _ (List.mem_of_getElem? (i := 19) rfl))) (Or.inr (hw _ (List.mem_of_getElem? (i := 21) rfl))) (by decide) (t := (.array .int)) (t' := (.array .int)) (by decide) (by decide)))
  have F11_titleCounts := F6_titleCounts.same W11
  have F11_contentCounts := F6_contentCounts.other W11 (Or.inr (slot_ne (Or.inr (hw _ (List.mem_of_getElem? (i := 23) rfl))) (Or.inr (hw _ (List.mem_of_getElem? (i := 21) rfl))) (by decide) (t := (.array .int)) (t' := (.array .int)) (by decide) (by decide)))
  have F11_inStructure := F6_inStructure.other W11 (Or.inr (slot_ne (Or.inr (hw _ (List.mem_of_getElem? (i := 25) rfl))) (Or.inr (hw _ (List.mem_of_getElem? (i := 21) rfl))) (by decide) (t := (.array .boolean)) (t' := (.array .int)) (by decide) (by decide)))
  have F11_collectionCount := F6_collectionCount.other W11 (Or.inr (slot_ne (Or.inr (hw _ (List.mem_of_getElem? (i := 27) rfl))) (Or.inr (hw _ (List.mem_of_getElem? (i := 21) rfl))) (by decide) (t := .long) (t' := (.array .int)) (by decide) (by decide)))
  have VC11 := VC6.other W11 hne
  have K11 : Keep h0 h11 [o1] := K6.wr W11 (Or.inl (List.mem_of_getElem? (i := 0) rfl))
  show own_Go p e below _ T11 (mkF m 14 #[.val (.ref o1), .val (.ref r1), .val (.ref t1), .val (.ref c1), .val (.ref s1), .unset, .unset, .unset, .unset, .unset, .unset] [])
  refine own_st (fun t k => XS.aloadN X11.here hx rfl (hb hby din0_14) rfl rfl k) ?_
  show own_Go p e below _ T11 (mkF m 15 #[.val (.ref o1), .val (.ref r1), .val (.ref t1), .val (.ref c1), .val (.ref s1), .unset, .unset, .unset, .unset, .unset, .unset] [(.ref o1)])
  refine own_st (fun t k => XS.aloadN X11.here hx rfl (hb hby din0_15) rfl rfl k) ?_
  show own_Go p e below _ T11 (mkF m 16 #[.val (.ref o1), .val (.ref r1), .val (.ref t1), .val (.ref c1), .val (.ref s1), .unset, .unset, .unset, .unset, .unset, .unset] [(.ref c1), (.ref o1)])
  obtain ⟨T16, h16, X16, e16, W16, st16⟩ := putF X11 hx hZ hown (host := "") (Or.inl (hw _ (List.mem_of_getElem? (i := 22) rfl))) Via.refl e11 F11_contentCounts E11_o (Or.inr ⟨(hw _ (List.mem_of_getElem? (i := 23) rfl)), rfl, hnm⟩) (hw _ (List.mem_of_getElem? (i := 9) rfl)) (ty := (.array .int)) (by decide) rfl rfl (g := (mkF m 16 #[.val (.ref o1), .val (.ref r1), .val (.ref t1), .val (.ref c1), .val (.ref s1), .unset, .unset, .unset, .unset, .unset, .unset] [(.ref c1), (.ref o1)])) rfl rfl (hb hby din0_16)
  refine own_st st16 ?_
  have N16 := Fr.snoc X16 N11 ge
  have E16_o := E11_o.wr W16
  have F16_resources := F11_resources.other W16 (Or.inr (slot_ne (Or.inr (hw _ (List.mem_of_getElem? (i := 19) rfl))) (Or.inr (hw _ (List.mem_of_getElem? (i := 23) rfl))) (by decide) (t := (.array .int)) (t' := (.array .int)) (by decide) (by decide)))
  have F16_titleCounts := F11_titleCounts.other W16 (Or.inr (slot_ne (Or.inr (hw _ (List.mem_of_getElem? (i := 21) rfl))) (Or.inr (hw _ (List.mem_of_getElem? (i := 23) rfl))) (by decide) (t := (.array .int)) (t' := (.array .int)) (by decide) (by decide)))
  have F16_contentCounts := F11_contentCounts.same W16
  have F16_inStructure := F11_inStructure.other W16 (Or.inr (slot_ne (Or.inr (hw _ (List.mem_of_getElem? (i := 25) rfl))) (Or.inr (hw _ (List.mem_of_getElem? (i := 23) rfl))) (by decide) (t := (.array .boolean)) (t' := (.array .int)) (by decide) (by decide)))
  have F16_collectionCount := F11_collectionCount.other W16 (Or.inr (slot_ne (Or.inr (hw _ (List.mem_of_getElem? (i := 27) rfl))) (Or.inr (hw _ (List.mem_of_getElem? (i := 23) rfl))) (by decide) (t := .long) (t' := (.array .int)) (by decide) (by decide)))
  have VC16 := VC11.other W16 hne
  have K16 : Keep h0 h16 [o1] := K11.wr W16 (Or.inl (List.mem_of_getElem? (i := 0) rfl))
  show own_Go p e below _ T16 (mkF m 19 #[.val (.ref o1), .val (.ref r1), .val (.ref t1), .val (.ref c1), .val (.ref s1), .unset, .unset, .unset, .unset, .unset, .unset] [])
  refine own_st (fun t k => XS.aloadN X16.here hx rfl (hb hby din0_19) rfl rfl k) ?_
  show own_Go p e below _ T16 (mkF m 20 #[.val (.ref o1), .val (.ref r1), .val (.ref t1), .val (.ref c1), .val (.ref s1), .unset, .unset, .unset, .unset, .unset, .unset] [(.ref o1)])
  refine own_st (fun t k => XS.aload X16.here hx rfl (hb hby din0_20) rfl rfl k) ?_
  show own_Go p e below _ T16 (mkF m 22 #[.val (.ref o1), .val (.ref r1), .val (.ref t1), .val (.ref c1), .val (.ref s1), .unset, .unset, .unset, .unset, .unset, .unset] [(.ref s1), (.ref o1)])
  obtain ⟨T22, h22, X22, e22, W22, st22⟩ := putF X16 hx hZ hown (host := "") (Or.inl (hw _ (List.mem_of_getElem? (i := 24) rfl))) Via.refl e16 F16_inStructure E16_o (Or.inr ⟨(hw _ (List.mem_of_getElem? (i := 25) rfl)), rfl, hnm⟩) (hw _ (List.mem_of_getElem? (i := 9) rfl)) (ty := (.array .boolean)) (by decide) rfl rfl (g := (mkF m 22 #[.val (.ref o1), .val (.ref r1), .val (.ref t1), .val (.ref c1), .val (.ref s1), .unset, .unset, .unset, .unset, .unset, .unset] [(.ref s1), (.ref o1)])) rfl rfl (hb hby din0_22)
  refine own_st st22 ?_
  have N22 := Fr.snoc X22 N16 ge
  have E22_o := E16_o.wr W22
  have F22_resources := F16_resources.other W22 (Or.inr (slot_ne (Or.inr (hw _ (List.mem_of_getElem? (i := 19) rfl))) (Or.inr (hw _ (List.mem_of_getElem? (i := 25) rfl))) (by decide) (t := (.array .int)) (t' := (.array .boolean)) (by decide) (by decide)))
  have F22_titleCounts := F16_titleCounts.other W22 (Or.inr (slot_ne (Or.inr (hw _ (List.mem_of_getElem? (i := 21) rfl))) (Or.inr (hw _ (List.mem_of_getElem? (i := 25) rfl))) (by decide) (t := (.array .int)) (t' := (.array .boolean)) (by decide) (by decide)))
  have F22_contentCounts := F16_contentCounts.other W22 (Or.inr (slot_ne (Or.inr (hw _ (List.mem_of_getElem? (i := 23) rfl))) (Or.inr (hw _ (List.mem_of_getElem? (i := 25) rfl))) (by decide) (t := (.array .int)) (t' := (.array .boolean)) (by decide) (by decide)))
  have F22_inStructure := F16_inStructure.same W22
  have F22_collectionCount := F16_collectionCount.other W22 (Or.inr (slot_ne (Or.inr (hw _ (List.mem_of_getElem? (i := 27) rfl))) (Or.inr (hw _ (List.mem_of_getElem? (i := 25) rfl))) (by decide) (t := .long) (t' := (.array .boolean)) (by decide) (by decide)))
  have VC22 := VC16.other W22 hne
  have K22 : Keep h0 h22 [o1] := K16.wr W22 (Or.inl (List.mem_of_getElem? (i := 0) rfl))
  show own_Go p e below _ T22 (mkF m 25 #[.val (.ref o1), .val (.ref r1), .val (.ref t1), .val (.ref c1), .val (.ref s1), .unset, .unset, .unset, .unset, .unset, .unset] [])
  refine own_st (fun t k => XS.lconst X22.here hx rfl (hb hby din0_25) k) ?_
  show own_Go p e below _ T22 (mkF m 26 #[.val (.ref o1), .val (.ref r1), .val (.ref t1), .val (.ref c1), .val (.ref s1), .unset, .unset, .unset, .unset, .unset, .unset] [(.long (0 : Int64))])
  refine own_st (fun t k => XS.lstore X22.here hx rfl (hb hby din0_26) rfl (l' := #[.val (.ref o1), .val (.ref r1), .val (.ref t1), .val (.ref c1), .val (.ref s1), .val (.long (0 : Int64)), .second, .unset, .unset, .unset, .unset]) rfl k) ?_
  show own_Go p e below _ T22 (mkF m 28 #[.val (.ref o1), .val (.ref r1), .val (.ref t1), .val (.ref c1), .val (.ref s1), .val (.long (0 : Int64)), .second, .unset, .unset, .unset, .unset] [])
  refine own_st (fun t k => XS.aloadN X22.here hx rfl (hb hby din0_28) rfl rfl k) ?_
  show own_Go p e below _ T22 (mkF m 29 #[.val (.ref o1), .val (.ref r1), .val (.ref t1), .val (.ref c1), .val (.ref s1), .val (.long (0 : Int64)), .second, .unset, .unset, .unset, .unset] [(.ref c1)])
  refine own_st (fun t k => XS.astore X22.here hx rfl (hb hby din0_29) rfl rfl (l' := #[.val (.ref o1), .val (.ref r1), .val (.ref t1), .val (.ref c1), .val (.ref s1), .val (.long (0 : Int64)), .second, .val (.ref c1), .unset, .unset, .unset]) rfl k) ?_
  show own_Go p e below _ T22 (mkF m 31 #[.val (.ref o1), .val (.ref r1), .val (.ref t1), .val (.ref c1), .val (.ref s1), .val (.long (0 : Int64)), .second, .val (.ref c1), .unset, .unset, .unset] [])
  refine own_st (fun t k => XS.aload X22.here hx rfl (hb hby din0_31) rfl rfl k) ?_
  show own_Go p e below _ T22 (mkF m 33 #[.val (.ref o1), .val (.ref r1), .val (.ref t1), .val (.ref c1), .val (.ref s1), .val (.long (0 : Int64)), .second, .val (.ref c1), .unset, .unset, .unset] [(.ref c1)])
  obtain ⟨cl33, Ar33, -, S33, M33, -, -⟩ := id VC22
  refine own_st (X22.arraylength hx (by rw [e22]; exact Ar33.1) (State.isArrayOf_alike hZ.alike Ar33.2.1) (g := (mkF m 33 #[.val (.ref o1), .val (.ref r1), .val (.ref t1), .val (.ref c1), .val (.ref s1), .val (.long (0 : Int64)), .second, .val (.ref c1), .unset, .unset, .unset] [(.ref c1)])) rfl rfl (hb hby din0_33)) ?_
  rw [len_of S33 M33]
  show own_Go p e below _ T22 (mkF m 34 #[.val (.ref o1), .val (.ref r1), .val (.ref t1), .val (.ref c1), .val (.ref s1), .val (.long (0 : Int64)), .second, .val (.ref c1), .unset, .unset, .unset] [(.int (0 : Int32))])
  refine own_st (fun t k => XS.istore X22.here hx rfl (hb hby din0_34) rfl (l' := #[.val (.ref o1), .val (.ref r1), .val (.ref t1), .val (.ref c1), .val (.ref s1), .val (.long (0 : Int64)), .second, .val (.ref c1), .val (.int (0 : Int32)), .unset, .unset]) rfl k) ?_
  show own_Go p e below _ T22 (mkF m 36 #[.val (.ref o1), .val (.ref r1), .val (.ref t1), .val (.ref c1), .val (.ref s1), .val (.long (0 : Int64)), .second, .val (.ref c1), .val (.int (0 : Int32)), .unset, .unset] [])
  refine own_st (fun t k => XS.iconst X22.here hx rfl (hb hby din0_36) k) ?_
  show own_Go p e below _ T22 (mkF m 37 #[.val (.ref o1), .val (.ref r1), .val (.ref t1), .val (.ref c1), .val (.ref s1), .val (.long (0 : Int64)), .second, .val (.ref c1), .val (.int (0 : Int32)), .unset, .unset] [(.int (0 : Int32))])
  refine own_st (fun t k => XS.istore X22.here hx rfl (hb hby din0_37) rfl (l' := #[.val (.ref o1), .val (.ref r1), .val (.ref t1), .val (.ref c1), .val (.ref s1), .val (.long (0 : Int64)), .second, .val (.ref c1), .val (.int (0 : Int32)), .val (.int (0 : Int32)), .unset]) rfl k) ?_
  show own_Go p e below _ T22 (mkF m 39 #[.val (.ref o1), .val (.ref r1), .val (.ref t1), .val (.ref c1), .val (.ref s1), .val (.long (0 : Int64)), .second, .val (.ref c1), .val (.int (0 : Int32)), .val (.int (0 : Int32)), .unset] [])
  refine own_st (fun t k => XS.iload X22.here hx rfl (hb hby din0_39) rfl  k) ?_
  show own_Go p e below _ T22 (mkF m 41 #[.val (.ref o1), .val (.ref r1), .val (.ref t1), .val (.ref c1), .val (.ref s1), .val (.long (0 : Int64)), .second, .val (.ref c1), .val (.int (0 : Int32)), .val (.int (0 : Int32)), .unset] [(.int (0 : Int32))])
  refine own_st (fun t k => XS.iload X22.here hx rfl (hb hby din0_41) rfl  k) ?_
  show own_Go p e below _ T22 (mkF m 43 #[.val (.ref o1), .val (.ref r1), .val (.ref t1), .val (.ref c1), .val (.ref s1), .val (.long (0 : Int64)), .second, .val (.ref c1), .val (.int (0 : Int32)), .val (.int (0 : Int32)), .unset] [(.int (0 : Int32)), (.int (0 : Int32))])
  refine own_st (fun t k => XS.icmpYes X22.here hx rfl (pc0 := 43) (pc' := 67) rfl (hb hby din0_43) rfl (flt (by decide : ¬ (0 : Int32) < (0 : Int32))).2.1 (by decide) (by decide) k) ?_
  show own_Go p e below _ T22 (mkF m 67 #[.val (.ref o1), .val (.ref r1), .val (.ref t1), .val (.ref c1), .val (.ref s1), .val (.long (0 : Int64)), .second, .val (.ref c1), .val (.int (0 : Int32)), .val (.int (0 : Int32)), .unset] [])
  refine own_st (fun t k => XS.aloadN X22.here hx rfl (hb hby din0_67) rfl rfl k) ?_
  show own_Go p e below _ T22 (mkF m 68 #[.val (.ref o1), .val (.ref r1), .val (.ref t1), .val (.ref c1), .val (.ref s1), .val (.long (0 : Int64)), .second, .val (.ref c1), .val (.int (0 : Int32)), .val (.int (0 : Int32)), .unset] [(.ref o1)])
  refine own_st (fun t k => XS.lload X22.here hx rfl (hb hby din0_68) rfl  k) ?_
  show own_Go p e below _ T22 (mkF m 70 #[.val (.ref o1), .val (.ref r1), .val (.ref t1), .val (.ref c1), .val (.ref s1), .val (.long (0 : Int64)), .second, .val (.ref c1), .val (.int (0 : Int32)), .val (.int (0 : Int32)), .unset] [(.long (0 : Int64)), (.ref o1)])
  obtain ⟨T70, h70, X70, e70, W70, st70⟩ := putF X22 hx hZ hown (host := "") (Or.inl (hw _ (List.mem_of_getElem? (i := 26) rfl))) Via.refl e22 F22_collectionCount E22_o (Or.inr ⟨(hw _ (List.mem_of_getElem? (i := 27) rfl)), rfl, hnm⟩) (hw _ (List.mem_of_getElem? (i := 9) rfl)) (ty := .long) (by decide) rfl rfl (g := (mkF m 70 #[.val (.ref o1), .val (.ref r1), .val (.ref t1), .val (.ref c1), .val (.ref s1), .val (.long (0 : Int64)), .second, .val (.ref c1), .val (.int (0 : Int32)), .val (.int (0 : Int32)), .unset] [(.long (0 : Int64)), (.ref o1)])) rfl rfl (hb hby din0_70)
  refine own_st st70 ?_
  have N70 := Fr.snoc X70 N22 ge
  have E70_o := E22_o.wr W70
  have F70_resources := F22_resources.other W70 (Or.inr (slot_ne (Or.inr (hw _ (List.mem_of_getElem? (i := 19) rfl))) (Or.inr (hw _ (List.mem_of_getElem? (i := 27) rfl))) (by decide) (t := (.array .int)) (t' := .long) (by decide) (by decide)))
  have F70_titleCounts := F22_titleCounts.other W70 (Or.inr (slot_ne (Or.inr (hw _ (List.mem_of_getElem? (i := 21) rfl))) (Or.inr (hw _ (List.mem_of_getElem? (i := 27) rfl))) (by decide) (t := (.array .int)) (t' := .long) (by decide) (by decide)))
  have F70_contentCounts := F22_contentCounts.other W70 (Or.inr (slot_ne (Or.inr (hw _ (List.mem_of_getElem? (i := 23) rfl))) (Or.inr (hw _ (List.mem_of_getElem? (i := 27) rfl))) (by decide) (t := (.array .int)) (t' := .long) (by decide) (by decide)))
  have F70_inStructure := F22_inStructure.other W70 (Or.inr (slot_ne (Or.inr (hw _ (List.mem_of_getElem? (i := 25) rfl))) (Or.inr (hw _ (List.mem_of_getElem? (i := 27) rfl))) (by decide) (t := (.array .boolean)) (t' := .long) (by decide) (by decide)))
  have F70_collectionCount := F22_collectionCount.same W70
  have K70 : Keep h0 h70 [o1] := K22.wr W70 (Or.inl (List.mem_of_getElem? (i := 0) rfl))
  show own_Go p e below _ T70 (mkF m 73 #[.val (.ref o1), .val (.ref r1), .val (.ref t1), .val (.ref c1), .val (.ref s1), .val (.long (0 : Int64)), .second, .val (.ref c1), .val (.int (0 : Int32)), .val (.int (0 : Int32)), .unset] [])
  refine own_retV X70 hx hlk hret (hb hby din0_73) ?_ (by decide) (by decide)
  rw [e70]
  exact ⟨rfl, N70, K70, E70_o, F70_resources⟩
theorem dbz1_0 : decode jdk_65_method_59_code 0 = .ok (.iload_n 1, 1) := by decide +kernel
theorem dbz1_1 : decode jdk_65_method_59_code 1 = .ok (.istore 4, 2) := by decide +kernel
theorem dbz1_3 : decode jdk_65_method_59_code 3 = .ok (.iload_n 2, 1) := by decide +kernel
theorem dbz1_4 : decode jdk_65_method_59_code 4 = .ok (.iconst 1, 1) := by decide +kernel
theorem dbz1_5 : decode jdk_65_method_59_code 5 = .ok (.isub, 1) := by decide +kernel
theorem dbz1_6 : decode jdk_65_method_59_code 6 = .ok (.istore 5, 2) := by decide +kernel
theorem dbz1_8 : decode jdk_65_method_59_code 8 = .ok (.iload 4, 2) := by decide +kernel
theorem dbz1_10 : decode jdk_65_method_59_code 10 = .ok (.iload 5, 2) := by decide +kernel
theorem dbz1_12 : decode jdk_65_method_59_code 12 = .ok (.if_icmp .gt 54, 3) := by decide +kernel
theorem dbz1_15 : decode jdk_65_method_59_code 15 = .ok (.iload 4, 2) := by decide +kernel
theorem dbz1_17 : decode jdk_65_method_59_code 17 = .ok (.iload 5, 2) := by decide +kernel
theorem dbz1_19 : decode jdk_65_method_59_code 19 = .ok (.iadd, 1) := by decide +kernel
theorem dbz1_20 : decode jdk_65_method_59_code 20 = .ok (.iconst 1, 1) := by decide +kernel
theorem dbz1_21 : decode jdk_65_method_59_code 21 = .ok (.iushr, 1) := by decide +kernel
theorem dbz1_22 : decode jdk_65_method_59_code 22 = .ok (.istore 6, 2) := by decide +kernel
theorem dbz1_24 : decode jdk_65_method_59_code 24 = .ok (.aload_n 0, 1) := by decide +kernel
theorem dbz1_25 : decode jdk_65_method_59_code 25 = .ok (.iload 6, 2) := by decide +kernel
theorem dbz1_27 : decode jdk_65_method_59_code 27 = .ok (.iaload, 1) := by decide +kernel
theorem dbz1_28 : decode jdk_65_method_59_code 28 = .ok (.istore 7, 2) := by decide +kernel
theorem dbz1_30 : decode jdk_65_method_59_code 30 = .ok (.iload 7, 2) := by decide +kernel
theorem dbz1_32 : decode jdk_65_method_59_code 32 = .ok (.iload_n 3, 1) := by decide +kernel
theorem dbz1_33 : decode jdk_65_method_59_code 33 = .ok (.if_icmp .ge 12, 3) := by decide +kernel
theorem dbz1_36 : decode jdk_65_method_59_code 36 = .ok (.iload 6, 2) := by decide +kernel
theorem dbz1_38 : decode jdk_65_method_59_code 38 = .ok (.iconst 1, 1) := by decide +kernel
theorem dbz1_39 : decode jdk_65_method_59_code 39 = .ok (.iadd, 1) := by decide +kernel
theorem dbz1_40 : decode jdk_65_method_59_code 40 = .ok (.istore 4, 2) := by decide +kernel
theorem dbz1_42 : decode jdk_65_method_59_code 42 = .ok (.goto 21, 3) := by decide +kernel
theorem dbz1_45 : decode jdk_65_method_59_code 45 = .ok (.iload 7, 2) := by decide +kernel
theorem dbz1_47 : decode jdk_65_method_59_code 47 = .ok (.iload_n 3, 1) := by decide +kernel
theorem dbz1_48 : decode jdk_65_method_59_code 48 = .ok (.if_icmp .le 12, 3) := by decide +kernel
theorem dbz1_51 : decode jdk_65_method_59_code 51 = .ok (.iload 6, 2) := by decide +kernel
theorem dbz1_53 : decode jdk_65_method_59_code 53 = .ok (.iconst 1, 1) := by decide +kernel
theorem dbz1_54 : decode jdk_65_method_59_code 54 = .ok (.isub, 1) := by decide +kernel
theorem dbz1_55 : decode jdk_65_method_59_code 55 = .ok (.istore 5, 2) := by decide +kernel
theorem dbz1_57 : decode jdk_65_method_59_code 57 = .ok (.goto 6, 3) := by decide +kernel
theorem dbz1_60 : decode jdk_65_method_59_code 60 = .ok (.iload 6, 2) := by decide +kernel
theorem dbz1_62 : decode jdk_65_method_59_code 62 = .ok (.ireturn, 1) := by decide +kernel
theorem dbz1_63 : decode jdk_65_method_59_code 63 = .ok (.goto (-55), 3) := by decide +kernel
theorem dbz1_66 : decode jdk_65_method_59_code 66 = .ok (.iload 4, 2) := by decide +kernel
theorem dbz1_68 : decode jdk_65_method_59_code 68 = .ok (.iconst 1, 1) := by decide +kernel
theorem dbz1_69 : decode jdk_65_method_59_code 69 = .ok (.iadd, 1) := by decide +kernel
theorem dbz1_70 : decode jdk_65_method_59_code 70 = .ok (.ineg, 1) := by decide +kernel
theorem dbz1_71 : decode jdk_65_method_59_code 71 = .ok (.ireturn, 1) := by decide +kernel
theorem efbz1 (m : MethodId) (x0 : Addr) (x1 : Int32) (x2 : Int32) (x3 : Int32) : entryFrame m #[(.ref x0), (.int x1), (.int x2), (.int x3)] 8 = mkF m 0 #[.val (.ref x0), .val (.int x1), .val (.int x2), .val (.int x3), .unset, .unset, .unset, .unset] [] := by first | (simp [entryFrame, mkF, argsToLocals, Value.category]; done) | rfl
set_option maxRecDepth 65536 in
set_option maxHeartbeats 40000000 in
theorem rm_bsz1 (l : Launch) (Z : State) (a0 : Array Value) (hw : ∀ d ∈ tables_1, d.before a0 Z = true) (ws : List Jvm.Cond) (a1 : Addr) (kk : ClassId) (x0 : Int32) (key : Int32) (h0 : Heap) (n0 : Nat) (Z0 : n0 ≤ h0.size) (V1 : Arv Z h0 a1 kk .int (1 : Int32) [(.int x0)] (.int (0 : Int32))) :
    own_Met l Z ws (⟨"java/util/Arrays", "binarySearch0", "([IIII)I"⟩ : MethodName) jdk_65_method_59_code 8 (some .int) ({ frames := 0, cells := 0, slots := 0, locals := 0 } : Room) #[(.ref a1), (.int (0 : Int32)), (.int (1 : Int32)), (.int key)] h0 (fun v h L => ∃ r : Int32, v = some (.int r) ∧ ((r = 0 ∧ key = x0) ∨ (r < 0 ∧ ¬ key = x0)) ∧ Fr n0 L ∧ h = h0) := by
  refine own_body (plainFor_of_name pn_0) ?_
  intro p e s m below meth c s₁ hx hby hml hret hlk hown hnm hZ X0 e0
  have hml : c.maxLocals = 8 := hml
  have hown : s.vm.findClass "java/util/Arrays" = some m.cls := hown
  have N0 := Fr.nil n0
  refine own_cast (efbz1 m a1 (0 : Int32) (1 : Int32) key) ?_
  show own_Go p e below _ s₁ (mkF m 0 #[.val (.ref a1), .val (.int (0 : Int32)), .val (.int (1 : Int32)), .val (.int key), .unset, .unset, .unset, .unset] [])
  refine own_st (fun t k => XS.iloadN X0.here hx rfl (hb hby dbz1_0) rfl  k) ?_
  show own_Go p e below _ s₁ (mkF m 1 #[.val (.ref a1), .val (.int (0 : Int32)), .val (.int (1 : Int32)), .val (.int key), .unset, .unset, .unset, .unset] [(.int (0 : Int32))])
  refine own_st (fun t k => XS.istore X0.here hx rfl (hb hby dbz1_1) rfl (l' := #[.val (.ref a1), .val (.int (0 : Int32)), .val (.int (1 : Int32)), .val (.int key), .val (.int (0 : Int32)), .unset, .unset, .unset]) rfl k) ?_
  show own_Go p e below _ s₁ (mkF m 3 #[.val (.ref a1), .val (.int (0 : Int32)), .val (.int (1 : Int32)), .val (.int key), .val (.int (0 : Int32)), .unset, .unset, .unset] [])
  refine own_st (fun t k => XS.iloadN X0.here hx rfl (hb hby dbz1_3) rfl  k) ?_
  show own_Go p e below _ s₁ (mkF m 4 #[.val (.ref a1), .val (.int (0 : Int32)), .val (.int (1 : Int32)), .val (.int key), .val (.int (0 : Int32)), .unset, .unset, .unset] [(.int (1 : Int32))])
  refine own_st (fun t k => XS.iconst X0.here hx rfl (hb hby dbz1_4) k) ?_
  show own_Go p e below _ s₁ (mkF m 5 #[.val (.ref a1), .val (.int (0 : Int32)), .val (.int (1 : Int32)), .val (.int key), .val (.int (0 : Int32)), .unset, .unset, .unset] [(.int (1 : Int32)), (.int (1 : Int32))])
  refine own_st (fun t k => XS.isub X0.here hx rfl (hb hby dbz1_5) rfl k) ?_
  show own_Go p e below _ s₁ (mkF m 6 #[.val (.ref a1), .val (.int (0 : Int32)), .val (.int (1 : Int32)), .val (.int key), .val (.int (0 : Int32)), .unset, .unset, .unset] [(.int ((1 : Int32) - (1 : Int32)))])
  show own_Go p e below _ s₁ (mkF m 6 #[.val (.ref a1), .val (.int (0 : Int32)), .val (.int (1 : Int32)), .val (.int key), .val (.int (0 : Int32)), .unset, .unset, .unset] [(.int (0 : Int32))])
  refine own_st (fun t k => XS.istore X0.here hx rfl (hb hby dbz1_6) rfl (l' := #[.val (.ref a1), .val (.int (0 : Int32)), .val (.int (1 : Int32)), .val (.int key), .val (.int (0 : Int32)), .val (.int (0 : Int32)), .unset, .unset]) rfl k) ?_
  show own_Go p e below _ s₁ (mkF m 8 #[.val (.ref a1), .val (.int (0 : Int32)), .val (.int (1 : Int32)), .val (.int key), .val (.int (0 : Int32)), .val (.int (0 : Int32)), .unset, .unset] [])
  refine own_st (fun t k => XS.iload X0.here hx rfl (hb hby dbz1_8) rfl  k) ?_
  show own_Go p e below _ s₁ (mkF m 10 #[.val (.ref a1), .val (.int (0 : Int32)), .val (.int (1 : Int32)), .val (.int key), .val (.int (0 : Int32)), .val (.int (0 : Int32)), .unset, .unset] [(.int (0 : Int32))])
  refine own_st (fun t k => XS.iload X0.here hx rfl (hb hby dbz1_10) rfl  k) ?_
  show own_Go p e below _ s₁ (mkF m 12 #[.val (.ref a1), .val (.int (0 : Int32)), .val (.int (1 : Int32)), .val (.int key), .val (.int (0 : Int32)), .val (.int (0 : Int32)), .unset, .unset] [(.int (0 : Int32)), (.int (0 : Int32))])
  refine own_st (fun t k => XS.icmpNo X0.here hx rfl (hb hby dbz1_12) rfl (flt (by decide : ¬ (0 : Int32) < (0 : Int32))).2.2.1 k) ?_
  show own_Go p e below _ s₁ (mkF m 15 #[.val (.ref a1), .val (.int (0 : Int32)), .val (.int (1 : Int32)), .val (.int key), .val (.int (0 : Int32)), .val (.int (0 : Int32)), .unset, .unset] [])
  refine own_st (fun t k => XS.iload X0.here hx rfl (hb hby dbz1_15) rfl  k) ?_
  show own_Go p e below _ s₁ (mkF m 17 #[.val (.ref a1), .val (.int (0 : Int32)), .val (.int (1 : Int32)), .val (.int key), .val (.int (0 : Int32)), .val (.int (0 : Int32)), .unset, .unset] [(.int (0 : Int32))])
  refine own_st (fun t k => XS.iload X0.here hx rfl (hb hby dbz1_17) rfl  k) ?_
  show own_Go p e below _ s₁ (mkF m 19 #[.val (.ref a1), .val (.int (0 : Int32)), .val (.int (1 : Int32)), .val (.int key), .val (.int (0 : Int32)), .val (.int (0 : Int32)), .unset, .unset] [(.int (0 : Int32)), (.int (0 : Int32))])
  refine own_st (fun t k => XS.iadd X0.here hx rfl (hb hby dbz1_19) rfl k) ?_
  show own_Go p e below _ s₁ (mkF m 20 #[.val (.ref a1), .val (.int (0 : Int32)), .val (.int (1 : Int32)), .val (.int key), .val (.int (0 : Int32)), .val (.int (0 : Int32)), .unset, .unset] [(.int ((0 : Int32) + (0 : Int32)))])
  refine own_st (fun t k => XS.iconst X0.here hx rfl (hb hby dbz1_20) k) ?_
  show own_Go p e below _ s₁ (mkF m 21 #[.val (.ref a1), .val (.int (0 : Int32)), .val (.int (1 : Int32)), .val (.int key), .val (.int (0 : Int32)), .val (.int (0 : Int32)), .unset, .unset] [(.int (1 : Int32)), (.int ((0 : Int32) + (0 : Int32)))])
  refine own_st (fun t k => XS.iushr X0.here hx rfl (hb hby dbz1_21) rfl k) ?_
  show own_Go p e below _ s₁ (mkF m 22 #[.val (.ref a1), .val (.int (0 : Int32)), .val (.int (1 : Int32)), .val (.int key), .val (.int (0 : Int32)), .val (.int (0 : Int32)), .unset, .unset] [(.int ((((0 : Int32) + (0 : Int32)).toUInt32 >>> ((1 : Int32) &&& 31).toUInt32).toInt32))])
  rw [(by decide : ((((0 : Int32) + (0 : Int32)).toUInt32 >>> ((1 : Int32) &&& 31).toUInt32).toInt32) = (0 : Int32))]
  show own_Go p e below _ s₁ (mkF m 22 #[.val (.ref a1), .val (.int (0 : Int32)), .val (.int (1 : Int32)), .val (.int key), .val (.int (0 : Int32)), .val (.int (0 : Int32)), .unset, .unset] [(.int (0 : Int32))])
  refine own_st (fun t k => XS.istore X0.here hx rfl (hb hby dbz1_22) rfl (l' := #[.val (.ref a1), .val (.int (0 : Int32)), .val (.int (1 : Int32)), .val (.int key), .val (.int (0 : Int32)), .val (.int (0 : Int32)), .val (.int (0 : Int32)), .unset]) rfl k) ?_
  show own_Go p e below _ s₁ (mkF m 24 #[.val (.ref a1), .val (.int (0 : Int32)), .val (.int (1 : Int32)), .val (.int key), .val (.int (0 : Int32)), .val (.int (0 : Int32)), .val (.int (0 : Int32)), .unset] [])
  refine own_st (fun t k => XS.aloadN X0.here hx rfl (hb hby dbz1_24) rfl rfl k) ?_
  show own_Go p e below _ s₁ (mkF m 25 #[.val (.ref a1), .val (.int (0 : Int32)), .val (.int (1 : Int32)), .val (.int key), .val (.int (0 : Int32)), .val (.int (0 : Int32)), .val (.int (0 : Int32)), .unset] [(.ref a1)])
  refine own_st (fun t k => XS.iload X0.here hx rfl (hb hby dbz1_25) rfl  k) ?_
  show own_Go p e below _ s₁ (mkF m 27 #[.val (.ref a1), .val (.int (0 : Int32)), .val (.int (1 : Int32)), .val (.int key), .val (.int (0 : Int32)), .val (.int (0 : Int32)), .val (.int (0 : Int32)), .unset] [(.int (0 : Int32)), (.ref a1)])
  obtain ⟨cli1, Ari1, -, Si1, Mi1, Hi1, Gi1⟩ := id V1
  have hini1 : ¬ ((0 : Int32) < 0 ∨ cli1.slots.size ≤ ((0 : Int32)).toNatClampNeg) := inb_of Si1 ⟨by decide, by decide⟩
  refine own_st (X0.iaload hx (j := (0 : Int32)) (v := (.int x0)) (by rw [e0]; exact Ari1.1) (State.isArrayOf_alike hZ.alike Ari1.2.1) Ari1.2.2 hini1 (Has.at Hi1 hini1 rfl) (g := (mkF m 27 #[.val (.ref a1), .val (.int (0 : Int32)), .val (.int (1 : Int32)), .val (.int key), .val (.int (0 : Int32)), .val (.int (0 : Int32)), .val (.int (0 : Int32)), .unset] [(.int (0 : Int32)), (.ref a1)])) rfl rfl (hb hby dbz1_27)) ?_
  show own_Go p e below _ s₁ (mkF m 28 #[.val (.ref a1), .val (.int (0 : Int32)), .val (.int (1 : Int32)), .val (.int key), .val (.int (0 : Int32)), .val (.int (0 : Int32)), .val (.int (0 : Int32)), .unset] [(.int x0)])
  refine own_st (fun t k => XS.istore X0.here hx rfl (hb hby dbz1_28) rfl (l' := #[.val (.ref a1), .val (.int (0 : Int32)), .val (.int (1 : Int32)), .val (.int key), .val (.int (0 : Int32)), .val (.int (0 : Int32)), .val (.int (0 : Int32)), .val (.int x0)]) rfl k) ?_
  show own_Go p e below _ s₁ (mkF m 30 #[.val (.ref a1), .val (.int (0 : Int32)), .val (.int (1 : Int32)), .val (.int key), .val (.int (0 : Int32)), .val (.int (0 : Int32)), .val (.int (0 : Int32)), .val (.int x0)] [])
  refine own_st (fun t k => XS.iload X0.here hx rfl (hb hby dbz1_30) rfl  k) ?_
  show own_Go p e below _ s₁ (mkF m 32 #[.val (.ref a1), .val (.int (0 : Int32)), .val (.int (1 : Int32)), .val (.int key), .val (.int (0 : Int32)), .val (.int (0 : Int32)), .val (.int (0 : Int32)), .val (.int x0)] [(.int x0)])
  refine own_st (fun t k => XS.iloadN X0.here hx rfl (hb hby dbz1_32) rfl  k) ?_
  show own_Go p e below _ s₁ (mkF m 33 #[.val (.ref a1), .val (.int (0 : Int32)), .val (.int (1 : Int32)), .val (.int key), .val (.int (0 : Int32)), .val (.int (0 : Int32)), .val (.int (0 : Int32)), .val (.int x0)] [(.int key), (.int x0)])
  by_cases u1 : x0 < key
  · refine own_st (fun t k => XS.icmpNo X0.here hx rfl (hb hby dbz1_33) rfl (tlt u1).2.1 k) ?_
    show own_Go p e below _ s₁ (mkF m 36 #[.val (.ref a1), .val (.int (0 : Int32)), .val (.int (1 : Int32)), .val (.int key), .val (.int (0 : Int32)), .val (.int (0 : Int32)), .val (.int (0 : Int32)), .val (.int x0)] [])
    refine own_st (fun t k => XS.iload X0.here hx rfl (hb hby dbz1_36) rfl  k) ?_
    show own_Go p e below _ s₁ (mkF m 38 #[.val (.ref a1), .val (.int (0 : Int32)), .val (.int (1 : Int32)), .val (.int key), .val (.int (0 : Int32)), .val (.int (0 : Int32)), .val (.int (0 : Int32)), .val (.int x0)] [(.int (0 : Int32))])
    refine own_st (fun t k => XS.iconst X0.here hx rfl (hb hby dbz1_38) k) ?_
    show own_Go p e below _ s₁ (mkF m 39 #[.val (.ref a1), .val (.int (0 : Int32)), .val (.int (1 : Int32)), .val (.int key), .val (.int (0 : Int32)), .val (.int (0 : Int32)), .val (.int (0 : Int32)), .val (.int x0)] [(.int (1 : Int32)), (.int (0 : Int32))])
    refine own_st (fun t k => XS.iadd X0.here hx rfl (hb hby dbz1_39) rfl k) ?_
    show own_Go p e below _ s₁ (mkF m 40 #[.val (.ref a1), .val (.int (0 : Int32)), .val (.int (1 : Int32)), .val (.int key), .val (.int (0 : Int32)), .val (.int (0 : Int32)), .val (.int (0 : Int32)), .val (.int x0)] [(.int ((0 : Int32) + (1 : Int32)))])
    show own_Go p e below _ s₁ (mkF m 40 #[.val (.ref a1), .val (.int (0 : Int32)), .val (.int (1 : Int32)), .val (.int key), .val (.int (0 : Int32)), .val (.int (0 : Int32)), .val (.int (0 : Int32)), .val (.int x0)] [(.int (1 : Int32))])
    refine own_st (fun t k => XS.istore X0.here hx rfl (hb hby dbz1_40) rfl (l' := #[.val (.ref a1), .val (.int (0 : Int32)), .val (.int (1 : Int32)), .val (.int key), .val (.int (1 : Int32)), .val (.int (0 : Int32)), .val (.int (0 : Int32)), .val (.int x0)]) rfl k) ?_
    show own_Go p e below _ s₁ (mkF m 42 #[.val (.ref a1), .val (.int (0 : Int32)), .val (.int (1 : Int32)), .val (.int key), .val (.int (1 : Int32)), .val (.int (0 : Int32)), .val (.int (0 : Int32)), .val (.int x0)] [])
    refine own_st (fun t k => XS.goto X0.here hx rfl (pc0 := 42) (pc' := 63) rfl (hb hby dbz1_42) (by decide) (by decide) k) ?_
    show own_Go p e below _ s₁ (mkF m 63 #[.val (.ref a1), .val (.int (0 : Int32)), .val (.int (1 : Int32)), .val (.int key), .val (.int (1 : Int32)), .val (.int (0 : Int32)), .val (.int (0 : Int32)), .val (.int x0)] [])
    refine own_st (fun t k => XS.goto X0.here hx rfl (pc0 := 63) (pc' := 8) rfl (hb hby dbz1_63) (by decide) (by decide) k) ?_
    show own_Go p e below _ s₁ (mkF m 8 #[.val (.ref a1), .val (.int (0 : Int32)), .val (.int (1 : Int32)), .val (.int key), .val (.int (1 : Int32)), .val (.int (0 : Int32)), .val (.int (0 : Int32)), .val (.int x0)] [])
    refine own_st (fun t k => XS.iload X0.here hx rfl (hb hby dbz1_8) rfl  k) ?_
    show own_Go p e below _ s₁ (mkF m 10 #[.val (.ref a1), .val (.int (0 : Int32)), .val (.int (1 : Int32)), .val (.int key), .val (.int (1 : Int32)), .val (.int (0 : Int32)), .val (.int (0 : Int32)), .val (.int x0)] [(.int (1 : Int32))])
    refine own_st (fun t k => XS.iload X0.here hx rfl (hb hby dbz1_10) rfl  k) ?_
    show own_Go p e below _ s₁ (mkF m 12 #[.val (.ref a1), .val (.int (0 : Int32)), .val (.int (1 : Int32)), .val (.int key), .val (.int (1 : Int32)), .val (.int (0 : Int32)), .val (.int (0 : Int32)), .val (.int x0)] [(.int (0 : Int32)), (.int (1 : Int32))])
    refine own_st (fun t k => XS.icmpYes X0.here hx rfl (pc0 := 12) (pc' := 66) rfl (hb hby dbz1_12) rfl (tlt (by decide : (0 : Int32) < (1 : Int32))).2.2.1 (by decide) (by decide) k) ?_
    show own_Go p e below _ s₁ (mkF m 66 #[.val (.ref a1), .val (.int (0 : Int32)), .val (.int (1 : Int32)), .val (.int key), .val (.int (1 : Int32)), .val (.int (0 : Int32)), .val (.int (0 : Int32)), .val (.int x0)] [])
    refine own_st (fun t k => XS.iload X0.here hx rfl (hb hby dbz1_66) rfl  k) ?_
    show own_Go p e below _ s₁ (mkF m 68 #[.val (.ref a1), .val (.int (0 : Int32)), .val (.int (1 : Int32)), .val (.int key), .val (.int (1 : Int32)), .val (.int (0 : Int32)), .val (.int (0 : Int32)), .val (.int x0)] [(.int (1 : Int32))])
    refine own_st (fun t k => XS.iconst X0.here hx rfl (hb hby dbz1_68) k) ?_
    show own_Go p e below _ s₁ (mkF m 69 #[.val (.ref a1), .val (.int (0 : Int32)), .val (.int (1 : Int32)), .val (.int key), .val (.int (1 : Int32)), .val (.int (0 : Int32)), .val (.int (0 : Int32)), .val (.int x0)] [(.int (1 : Int32)), (.int (1 : Int32))])
    refine own_st (fun t k => XS.iadd X0.here hx rfl (hb hby dbz1_69) rfl k) ?_
    show own_Go p e below _ s₁ (mkF m 70 #[.val (.ref a1), .val (.int (0 : Int32)), .val (.int (1 : Int32)), .val (.int key), .val (.int (1 : Int32)), .val (.int (0 : Int32)), .val (.int (0 : Int32)), .val (.int x0)] [(.int ((1 : Int32) + (1 : Int32)))])
    refine own_st (fun t k => XS.ineg X0.here hx rfl (hb hby dbz1_70) rfl k) ?_
    show own_Go p e below _ s₁ (mkF m 71 #[.val (.ref a1), .val (.int (0 : Int32)), .val (.int (1 : Int32)), .val (.int key), .val (.int (1 : Int32)), .val (.int (0 : Int32)), .val (.int (0 : Int32)), .val (.int x0)] [(.int (-((1 : Int32) + (1 : Int32))))])
    refine own_retI X0 hx hlk hret (hb hby dbz1_71) ?_ (by decide) (by decide)
    rw [e0]
    exact ⟨_, rfl, (Or.inr (⟨by decide, (by simp only [Int32.lt_iff_toInt_lt, ← Int32.toInt_inj] at u1 ⊢; omega)⟩)), N0, rfl⟩
  · refine own_st (fun t k => XS.icmpYes X0.here hx rfl (pc0 := 33) (pc' := 45) rfl (hb hby dbz1_33) rfl (flt u1).2.1 (by decide) (by decide) k) ?_
    show own_Go p e below _ s₁ (mkF m 45 #[.val (.ref a1), .val (.int (0 : Int32)), .val (.int (1 : Int32)), .val (.int key), .val (.int (0 : Int32)), .val (.int (0 : Int32)), .val (.int (0 : Int32)), .val (.int x0)] [])
    refine own_st (fun t k => XS.iload X0.here hx rfl (hb hby dbz1_45) rfl  k) ?_
    show own_Go p e below _ s₁ (mkF m 47 #[.val (.ref a1), .val (.int (0 : Int32)), .val (.int (1 : Int32)), .val (.int key), .val (.int (0 : Int32)), .val (.int (0 : Int32)), .val (.int (0 : Int32)), .val (.int x0)] [(.int x0)])
    refine own_st (fun t k => XS.iloadN X0.here hx rfl (hb hby dbz1_47) rfl  k) ?_
    show own_Go p e below _ s₁ (mkF m 48 #[.val (.ref a1), .val (.int (0 : Int32)), .val (.int (1 : Int32)), .val (.int key), .val (.int (0 : Int32)), .val (.int (0 : Int32)), .val (.int (0 : Int32)), .val (.int x0)] [(.int key), (.int x0)])
    by_cases v1 : key < x0
    · refine own_st (fun t k => XS.icmpNo X0.here hx rfl (hb hby dbz1_48) rfl (tlt v1).2.2.2 k) ?_
      show own_Go p e below _ s₁ (mkF m 51 #[.val (.ref a1), .val (.int (0 : Int32)), .val (.int (1 : Int32)), .val (.int key), .val (.int (0 : Int32)), .val (.int (0 : Int32)), .val (.int (0 : Int32)), .val (.int x0)] [])
      refine own_st (fun t k => XS.iload X0.here hx rfl (hb hby dbz1_51) rfl  k) ?_
      show own_Go p e below _ s₁ (mkF m 53 #[.val (.ref a1), .val (.int (0 : Int32)), .val (.int (1 : Int32)), .val (.int key), .val (.int (0 : Int32)), .val (.int (0 : Int32)), .val (.int (0 : Int32)), .val (.int x0)] [(.int (0 : Int32))])
      refine own_st (fun t k => XS.iconst X0.here hx rfl (hb hby dbz1_53) k) ?_
      show own_Go p e below _ s₁ (mkF m 54 #[.val (.ref a1), .val (.int (0 : Int32)), .val (.int (1 : Int32)), .val (.int key), .val (.int (0 : Int32)), .val (.int (0 : Int32)), .val (.int (0 : Int32)), .val (.int x0)] [(.int (1 : Int32)), (.int (0 : Int32))])
      refine own_st (fun t k => XS.isub X0.here hx rfl (hb hby dbz1_54) rfl k) ?_
      show own_Go p e below _ s₁ (mkF m 55 #[.val (.ref a1), .val (.int (0 : Int32)), .val (.int (1 : Int32)), .val (.int key), .val (.int (0 : Int32)), .val (.int (0 : Int32)), .val (.int (0 : Int32)), .val (.int x0)] [(.int ((0 : Int32) - (1 : Int32)))])
      show own_Go p e below _ s₁ (mkF m 55 #[.val (.ref a1), .val (.int (0 : Int32)), .val (.int (1 : Int32)), .val (.int key), .val (.int (0 : Int32)), .val (.int (0 : Int32)), .val (.int (0 : Int32)), .val (.int x0)] [(.int (-1 : Int32))])
      refine own_st (fun t k => XS.istore X0.here hx rfl (hb hby dbz1_55) rfl (l' := #[.val (.ref a1), .val (.int (0 : Int32)), .val (.int (1 : Int32)), .val (.int key), .val (.int (0 : Int32)), .val (.int (-1 : Int32)), .val (.int (0 : Int32)), .val (.int x0)]) rfl k) ?_
      show own_Go p e below _ s₁ (mkF m 57 #[.val (.ref a1), .val (.int (0 : Int32)), .val (.int (1 : Int32)), .val (.int key), .val (.int (0 : Int32)), .val (.int (-1 : Int32)), .val (.int (0 : Int32)), .val (.int x0)] [])
      refine own_st (fun t k => XS.goto X0.here hx rfl (pc0 := 57) (pc' := 63) rfl (hb hby dbz1_57) (by decide) (by decide) k) ?_
      show own_Go p e below _ s₁ (mkF m 63 #[.val (.ref a1), .val (.int (0 : Int32)), .val (.int (1 : Int32)), .val (.int key), .val (.int (0 : Int32)), .val (.int (-1 : Int32)), .val (.int (0 : Int32)), .val (.int x0)] [])
      refine own_st (fun t k => XS.goto X0.here hx rfl (pc0 := 63) (pc' := 8) rfl (hb hby dbz1_63) (by decide) (by decide) k) ?_
      show own_Go p e below _ s₁ (mkF m 8 #[.val (.ref a1), .val (.int (0 : Int32)), .val (.int (1 : Int32)), .val (.int key), .val (.int (0 : Int32)), .val (.int (-1 : Int32)), .val (.int (0 : Int32)), .val (.int x0)] [])
      refine own_st (fun t k => XS.iload X0.here hx rfl (hb hby dbz1_8) rfl  k) ?_
      show own_Go p e below _ s₁ (mkF m 10 #[.val (.ref a1), .val (.int (0 : Int32)), .val (.int (1 : Int32)), .val (.int key), .val (.int (0 : Int32)), .val (.int (-1 : Int32)), .val (.int (0 : Int32)), .val (.int x0)] [(.int (0 : Int32))])
      refine own_st (fun t k => XS.iload X0.here hx rfl (hb hby dbz1_10) rfl  k) ?_
      show own_Go p e below _ s₁ (mkF m 12 #[.val (.ref a1), .val (.int (0 : Int32)), .val (.int (1 : Int32)), .val (.int key), .val (.int (0 : Int32)), .val (.int (-1 : Int32)), .val (.int (0 : Int32)), .val (.int x0)] [(.int (-1 : Int32)), (.int (0 : Int32))])
      refine own_st (fun t k => XS.icmpYes X0.here hx rfl (pc0 := 12) (pc' := 66) rfl (hb hby dbz1_12) rfl (tlt (by decide : (-1 : Int32) < (0 : Int32))).2.2.1 (by decide) (by decide) k) ?_
      show own_Go p e below _ s₁ (mkF m 66 #[.val (.ref a1), .val (.int (0 : Int32)), .val (.int (1 : Int32)), .val (.int key), .val (.int (0 : Int32)), .val (.int (-1 : Int32)), .val (.int (0 : Int32)), .val (.int x0)] [])
      refine own_st (fun t k => XS.iload X0.here hx rfl (hb hby dbz1_66) rfl  k) ?_
      show own_Go p e below _ s₁ (mkF m 68 #[.val (.ref a1), .val (.int (0 : Int32)), .val (.int (1 : Int32)), .val (.int key), .val (.int (0 : Int32)), .val (.int (-1 : Int32)), .val (.int (0 : Int32)), .val (.int x0)] [(.int (0 : Int32))])
      refine own_st (fun t k => XS.iconst X0.here hx rfl (hb hby dbz1_68) k) ?_
      show own_Go p e below _ s₁ (mkF m 69 #[.val (.ref a1), .val (.int (0 : Int32)), .val (.int (1 : Int32)), .val (.int key), .val (.int (0 : Int32)), .val (.int (-1 : Int32)), .val (.int (0 : Int32)), .val (.int x0)] [(.int (1 : Int32)), (.int (0 : Int32))])
      refine own_st (fun t k => XS.iadd X0.here hx rfl (hb hby dbz1_69) rfl k) ?_
      show own_Go p e below _ s₁ (mkF m 70 #[.val (.ref a1), .val (.int (0 : Int32)), .val (.int (1 : Int32)), .val (.int key), .val (.int (0 : Int32)), .val (.int (-1 : Int32)), .val (.int (0 : Int32)), .val (.int x0)] [(.int ((0 : Int32) + (1 : Int32)))])
      refine own_st (fun t k => XS.ineg X0.here hx rfl (hb hby dbz1_70) rfl k) ?_
      show own_Go p e below _ s₁ (mkF m 71 #[.val (.ref a1), .val (.int (0 : Int32)), .val (.int (1 : Int32)), .val (.int key), .val (.int (0 : Int32)), .val (.int (-1 : Int32)), .val (.int (0 : Int32)), .val (.int x0)] [(.int (-((0 : Int32) + (1 : Int32))))])
      refine own_retI X0 hx hlk hret (hb hby dbz1_71) ?_ (by decide) (by decide)
      rw [e0]
      exact ⟨_, rfl, (Or.inr (⟨by decide, (by simp only [Int32.lt_iff_toInt_lt, ← Int32.toInt_inj] at v1 ⊢; omega)⟩)), N0, rfl⟩
    · refine own_st (fun t k => XS.icmpYes X0.here hx rfl (pc0 := 48) (pc' := 60) rfl (hb hby dbz1_48) rfl (flt v1).2.2.2 (by decide) (by decide) k) ?_
      show own_Go p e below _ s₁ (mkF m 60 #[.val (.ref a1), .val (.int (0 : Int32)), .val (.int (1 : Int32)), .val (.int key), .val (.int (0 : Int32)), .val (.int (0 : Int32)), .val (.int (0 : Int32)), .val (.int x0)] [])
      refine own_st (fun t k => XS.iload X0.here hx rfl (hb hby dbz1_60) rfl  k) ?_
      show own_Go p e below _ s₁ (mkF m 62 #[.val (.ref a1), .val (.int (0 : Int32)), .val (.int (1 : Int32)), .val (.int key), .val (.int (0 : Int32)), .val (.int (0 : Int32)), .val (.int (0 : Int32)), .val (.int x0)] [(.int (0 : Int32))])
      refine own_retI X0 hx hlk hret (hb hby dbz1_62) ?_ (by decide) (by decide)
      rw [e0]
      exact ⟨_, rfl, (Or.inl ⟨rfl, (by simp only [Int32.lt_iff_toInt_lt, ← Int32.toInt_inj] at u1 v1 ⊢; omega)⟩), N0, rfl⟩
theorem dbs1_0 : decode jdk_65_method_57_code 0 = .ok (.aload_n 0, 1) := by decide +kernel
theorem dbs1_1 : decode jdk_65_method_57_code 1 = .ok (.iconst 0, 1) := by decide +kernel
theorem dbs1_2 : decode jdk_65_method_57_code 2 = .ok (.aload_n 0, 1) := by decide +kernel
theorem dbs1_3 : decode jdk_65_method_57_code 3 = .ok (.arraylength, 1) := by decide +kernel
theorem dbs1_4 : decode jdk_65_method_57_code 4 = .ok (.iload_n 1, 1) := by decide +kernel
theorem dbs1_5 : decode jdk_65_method_57_code 5 = .ok (.invokestatic 209, 3) := by decide +kernel
theorem dbs1_8 : decode jdk_65_method_57_code 8 = .ok (.ireturn, 1) := by decide +kernel
theorem efbs1 (m : MethodId) (x0 : Addr) (x1 : Int32) : entryFrame m #[(.ref x0), (.int x1)] 2 = mkF m 0 #[.val (.ref x0), .val (.int x1)] [] := by first | (simp [entryFrame, mkF, argsToLocals, Value.category]; done) | rfl
set_option maxRecDepth 65536 in
set_option maxHeartbeats 40000000 in
theorem rm_bs1 (l : Launch) (Z : State) (a0 : Array Value) (hw : ∀ d ∈ tables_1, d.before a0 Z = true) (ws : List Jvm.Cond) (a1 : Addr) (kk : ClassId) (x0 : Int32) (key : Int32) (h0 : Heap) (n0 : Nat) (Z0 : n0 ≤ h0.size) (V1 : Arv Z h0 a1 kk .int (1 : Int32) [(.int x0)] (.int (0 : Int32))) :
    own_Met l Z ws (⟨"java/util/Arrays", "binarySearch", "([II)I"⟩ : MethodName) jdk_65_method_57_code 2 (some .int) ({ frames := 1, cells := 0, slots := 0, locals := 20 } : Room) #[(.ref a1), (.int key)] h0 (fun v h L => ∃ r : Int32, v = some (.int r) ∧ ((r = 0 ∧ key = x0) ∨ (r < 0 ∧ ¬ key = x0)) ∧ Fr n0 L ∧ h = h0) := by
  refine own_body (plainFor_of_name pn_0) ?_
  intro p e s m below meth c s₁ hx hby hml hret hlk hown hnm hZ X0 e0
  have hml : c.maxLocals = 2 := hml
  have hown : s.vm.findClass "java/util/Arrays" = some m.cls := hown
  have N0 := Fr.nil n0
  refine own_cast (efbs1 m a1 key) ?_
  show own_Go p e below _ s₁ (mkF m 0 #[.val (.ref a1), .val (.int key)] [])
  refine own_st (fun t k => XS.aloadN X0.here hx rfl (hb hby dbs1_0) rfl rfl k) ?_
  show own_Go p e below _ s₁ (mkF m 1 #[.val (.ref a1), .val (.int key)] [(.ref a1)])
  refine own_st (fun t k => XS.iconst X0.here hx rfl (hb hby dbs1_1) k) ?_
  show own_Go p e below _ s₁ (mkF m 2 #[.val (.ref a1), .val (.int key)] [(.int (0 : Int32)), (.ref a1)])
  refine own_st (fun t k => XS.aloadN X0.here hx rfl (hb hby dbs1_2) rfl rfl k) ?_
  show own_Go p e below _ s₁ (mkF m 3 #[.val (.ref a1), .val (.int key)] [(.ref a1), (.int (0 : Int32)), (.ref a1)])
  obtain ⟨cl3, Ar3, -, S3, M3, -, -⟩ := id V1
  refine own_st (X0.arraylength hx (by rw [e0]; exact Ar3.1) (State.isArrayOf_alike hZ.alike Ar3.2.1) (g := (mkF m 3 #[.val (.ref a1), .val (.int key)] [(.ref a1), (.int (0 : Int32)), (.ref a1)])) rfl rfl (hb hby dbs1_3)) ?_
  rw [len_of S3 M3]
  show own_Go p e below _ s₁ (mkF m 4 #[.val (.ref a1), .val (.int key)] [(.int (1 : Int32)), (.int (0 : Int32)), (.ref a1)])
  refine own_st (fun t k => XS.iloadN X0.here hx rfl (hb hby dbs1_4) rfl  k) ?_
  show own_Go p e below _ s₁ (mkF m 5 #[.val (.ref a1), .val (.int key)] [(.int key), (.int (1 : Int32)), (.int (0 : Int32)), (.ref a1)])
  refine own_callS X0 hx hZ (y := (⟨"java/util/Arrays", "binarySearch0", "([IIII)I"⟩ : MethodName)) (W := 0) (kc := 0) (ks := 0) hown (hw _ (List.mem_of_getElem? (i := 37) rfl)) (hw _ (List.mem_of_getElem? (i := 38) rfl)) (hw _ (List.mem_of_getElem? (i := 35) rfl)) (hw _ (List.mem_of_getElem? (i := 39) rfl)) (own_back (W := 0) (rm_bsz1 l Z a0 hw [] a1 kk x0 key h0 n0 Z0 V1 ) hZ (hw _ (List.mem_of_getElem? (i := 39) rfl)) (hw _ (List.mem_of_getElem? (i := 35) rfl)) (by decide) (by decide)) (by decide) (g := (mkF m 5 #[.val (.ref a1), .val (.int key)] [(.int key), (.int (1 : Int32)), (.int (0 : Int32)), (.ref a1)])) rfl (by rw [hml]; rfl) (argsL := [(.ref a1), (.int (0 : Int32)), (.int (1 : Int32)), (.int key)]) (rest := []) (lenOf pd_0 rfl) rfl (by show 2 * 0 + _ ≤ _; exact Nat.le_of_eq rfl) (hb hby dbs1_5) rfl e0 (by decide) (by decide) (fun v5 T5 L5 X5 hQ5 => ?_)
  obtain ⟨r, rfl, hr, M5, e5⟩ := hQ5
  show own_Go p e below _ T5 (mkF m 8 #[.val (.ref a1), .val (.int key)] [(.int r)])
  refine own_retI X5 hx hlk hret (hb hby dbs1_8) ?_ (by decide) (by decide)
  rw [e5]
  exact ⟨_, rfl, hr, Fr.app N0 M5, rfl⟩
theorem dix1_0 : decode prog_44_method_8_code 0 = .ok (.aload_n 0, 1) := by decide +kernel
theorem dix1_1 : decode prog_44_method_8_code 1 = .ok (.getfield 7, 3) := by decide +kernel
theorem dix1_4 : decode prog_44_method_8_code 4 = .ok (.iload_n 1, 1) := by decide +kernel
theorem dix1_5 : decode prog_44_method_8_code 5 = .ok (.invokestatic 27, 3) := by decide +kernel
theorem dix1_8 : decode prog_44_method_8_code 8 = .ok (.istore_n 2, 1) := by decide +kernel
theorem dix1_9 : decode prog_44_method_8_code 9 = .ok (.iload_n 2, 1) := by decide +kernel
theorem dix1_10 : decode prog_44_method_8_code 10 = .ok (.ifCond .ge 7, 3) := by decide +kernel
theorem dix1_13 : decode prog_44_method_8_code 13 = .ok (.iconst (-1), 1) := by decide +kernel
theorem dix1_14 : decode prog_44_method_8_code 14 = .ok (.goto 4, 3) := by decide +kernel
theorem dix1_17 : decode prog_44_method_8_code 17 = .ok (.iload_n 2, 1) := by decide +kernel
theorem dix1_18 : decode prog_44_method_8_code 18 = .ok (.ireturn, 1) := by decide +kernel
theorem efix1 (m : MethodId) (x0 : Addr) (x1 : Int32) : entryFrame m #[(.ref x0), (.int x1)] 3 = mkF m 0 #[.val (.ref x0), .val (.int x1), .unset] [] := by first | (simp [entryFrame, mkF, argsToLocals, Value.category]; done) | rfl
set_option maxRecDepth 65536 in
set_option maxHeartbeats 40000000 in
theorem rm_ix1 (l : Launch) (Z : State) (a0 : Array Value) (hw : ∀ d ∈ tables_1, d.before a0 Z = true) (ws : List Jvm.Cond) (o1 : Addr) (a1 : Addr) (kk : ClassId) (x0 : Int32) (key : Int32) (h0 : Heap) (n0 : Nat) (Z0 : n0 ≤ h0.size) (F1 : Fld Z h0 o1 "com/example/rank3/rank3/text/Postings" "resources" "[I" (.ref a1)) (V1 : Arv Z h0 a1 kk .int (1 : Int32) [(.int x0)] (.int (0 : Int32))) :
    own_Met l Z ws (⟨"com/example/rank3/rank3/text/Postings", "indexOf", "(I)I"⟩ : MethodName) prog_44_method_8_code 3 (some .int) ({ frames := 2, cells := 0, slots := 0, locals := 40 } : Room) #[(.ref o1), (.int key)] h0 (fun v h L => ∃ r : Int32, v = some (.int r) ∧ ((r = 0 ∧ key = x0) ∨ (r = -1 ∧ ¬ key = x0)) ∧ Fr n0 L ∧ h = h0) := by
  refine own_body (plainFor_of_name pn_1) ?_
  intro p e s m below meth c s₁ hx hby hml hret hlk hown hnm hZ X0 e0
  have hml : c.maxLocals = 3 := hml
  have hown : s.vm.findClass "com/example/rank3/rank3/text/Postings" = some m.cls := hown
  have N0 := Fr.nil n0
  refine own_cast (efix1 m o1 key) ?_
  show own_Go p e below _ s₁ (mkF m 0 #[.val (.ref o1), .val (.int key), .unset] [])
  refine own_st (fun t k => XS.aloadN X0.here hx rfl (hb hby dix1_0) rfl rfl k) ?_
  show own_Go p e below _ s₁ (mkF m 1 #[.val (.ref o1), .val (.int key), .unset] [(.ref o1)])
  obtain ⟨T1, X1, e1, st1⟩ := getF X0 hx hZ hown (host := "") (Or.inl (hw _ (List.mem_of_getElem? (i := 18) rfl))) Via.refl e0 F1 (g := (mkF m 1 #[.val (.ref o1), .val (.int key), .unset] [(.ref o1)])) rfl rfl (hb hby dix1_1)
  refine own_st st1 ?_
  show own_Go p e below _ T1 (mkF m 4 #[.val (.ref o1), .val (.int key), .unset] [(.ref a1)])
  refine own_st (fun t k => XS.iloadN X1.here hx rfl (hb hby dix1_4) rfl  k) ?_
  show own_Go p e below _ T1 (mkF m 5 #[.val (.ref o1), .val (.int key), .unset] [(.int key), (.ref a1)])
  refine own_callS X1 hx hZ (y := (⟨"java/util/Arrays", "binarySearch", "([II)I"⟩ : MethodName)) (W := 0) (kc := 0) (ks := 0) hown (hw _ (List.mem_of_getElem? (i := 33) rfl)) (hw _ (List.mem_of_getElem? (i := 34) rfl)) (hw _ (List.mem_of_getElem? (i := 35) rfl)) (hw _ (List.mem_of_getElem? (i := 36) rfl)) (own_back (W := 0) (rm_bs1 l Z a0 hw [] a1 kk x0 key h0 n0 Z0 V1 ) hZ (hw _ (List.mem_of_getElem? (i := 36) rfl)) (hw _ (List.mem_of_getElem? (i := 35) rfl)) (by decide) (by decide)) (by decide) (g := (mkF m 5 #[.val (.ref o1), .val (.int key), .unset] [(.int key), (.ref a1)])) rfl (by rw [hml]; rfl) (argsL := [(.ref a1), (.int key)]) (rest := []) (lenOf pd_1 rfl) rfl (by show 2 * 0 + _ ≤ _; exact Nat.le_of_eq rfl) (hb hby dix1_5) rfl e1 (by decide) (by decide) (fun v5 T5 L5 X5 hQ5 => ?_)
  obtain ⟨r, rfl, hr, M5, e5⟩ := hQ5
  show own_Go p e below _ T5 (mkF m 8 #[.val (.ref o1), .val (.int key), .unset] [(.int r)])
  refine own_st (fun t k => XS.istoreN X5.here hx rfl (hb hby dix1_8) rfl (l' := #[.val (.ref o1), .val (.int key), .val (.int r)]) rfl k) ?_
  show own_Go p e below _ T5 (mkF m 9 #[.val (.ref o1), .val (.int key), .val (.int r)] [])
  refine own_st (fun t k => XS.iloadN X5.here hx rfl (hb hby dix1_9) rfl  k) ?_
  show own_Go p e below _ T5 (mkF m 10 #[.val (.ref o1), .val (.int key), .val (.int r)] [(.int r)])
  rcases hr with ⟨hr, hk⟩ | ⟨hr, hk⟩
  · subst hr
    show own_Go p e below _ T5 (mkF m 10 #[.val (.ref o1), .val (.int key), .val (.int (0 : Int32))] [(.int (0 : Int32))])
    refine own_st (fun t k => XS.ifYes X5.here hx rfl (pc0 := 10) (pc' := 17) rfl (hb hby dix1_10) rfl ((if0 _ _).trans (flt (by decide : ¬ (0 : Int32) < 0)).2.1) (by decide) (by decide) k) ?_
    show own_Go p e below _ T5 (mkF m 17 #[.val (.ref o1), .val (.int key), .val (.int (0 : Int32))] [])
    refine own_st (fun t k => XS.iloadN X5.here hx rfl (hb hby dix1_17) rfl  k) ?_
    show own_Go p e below _ T5 (mkF m 18 #[.val (.ref o1), .val (.int key), .val (.int (0 : Int32))] [(.int (0 : Int32))])
    refine own_retI X5 hx hlk hret (hb hby dix1_18) ?_ (by decide) (by decide)
    rw [e5]
    exact ⟨_, rfl, (Or.inl ⟨rfl, hk⟩), Fr.app N0 M5, rfl⟩
  · refine own_st (fun t k => XS.ifNo X5.here hx rfl (hb hby dix1_10) rfl ((if0 _ _).trans (tlt hr).2.1) k) ?_
    show own_Go p e below _ T5 (mkF m 13 #[.val (.ref o1), .val (.int key), .val (.int r)] [])
    refine own_st (fun t k => XS.iconst X5.here hx rfl (hb hby dix1_13) k) ?_
    show own_Go p e below _ T5 (mkF m 14 #[.val (.ref o1), .val (.int key), .val (.int r)] [(.int (-1 : Int32))])
    refine own_st (fun t k => XS.goto X5.here hx rfl (pc0 := 14) (pc' := 18) rfl (hb hby dix1_14) (by decide) (by decide) k) ?_
    show own_Go p e below _ T5 (mkF m 18 #[.val (.ref o1), .val (.int key), .val (.int r)] [(.int (-1 : Int32))])
    refine own_retI X5 hx hlk hret (hb hby dix1_18) ?_ (by decide) (by decide)
    rw [e5]
    exact ⟨_, rfl, (Or.inr (⟨rfl, hk⟩)), Fr.app N0 M5, rfl⟩
theorem din1_0 : decode prog_44_method_1_code 0 = .ok (.aload_n 0, 1) := by decide +kernel
theorem din1_1 : decode prog_44_method_1_code 1 = .ok (.invokespecial 1, 3) := by decide +kernel
theorem din1_4 : decode prog_44_method_1_code 4 = .ok (.aload_n 0, 1) := by decide +kernel
theorem din1_5 : decode prog_44_method_1_code 5 = .ok (.aload_n 1, 1) := by decide +kernel
theorem din1_6 : decode prog_44_method_1_code 6 = .ok (.putfield 7, 3) := by decide +kernel
theorem din1_9 : decode prog_44_method_1_code 9 = .ok (.aload_n 0, 1) := by decide +kernel
theorem din1_10 : decode prog_44_method_1_code 10 = .ok (.aload_n 2, 1) := by decide +kernel
theorem din1_11 : decode prog_44_method_1_code 11 = .ok (.putfield 13, 3) := by decide +kernel
theorem din1_14 : decode prog_44_method_1_code 14 = .ok (.aload_n 0, 1) := by decide +kernel
theorem din1_15 : decode prog_44_method_1_code 15 = .ok (.aload_n 3, 1) := by decide +kernel
theorem din1_16 : decode prog_44_method_1_code 16 = .ok (.putfield 16, 3) := by decide +kernel
theorem din1_19 : decode prog_44_method_1_code 19 = .ok (.aload_n 0, 1) := by decide +kernel
theorem din1_20 : decode prog_44_method_1_code 20 = .ok (.aload 4, 2) := by decide +kernel
theorem din1_22 : decode prog_44_method_1_code 22 = .ok (.putfield 19, 3) := by decide +kernel
theorem din1_25 : decode prog_44_method_1_code 25 = .ok (.lconst 0, 1) := by decide +kernel
theorem din1_26 : decode prog_44_method_1_code 26 = .ok (.lstore 5, 2) := by decide +kernel
theorem din1_28 : decode prog_44_method_1_code 28 = .ok (.aload_n 3, 1) := by decide +kernel
theorem din1_29 : decode prog_44_method_1_code 29 = .ok (.astore 7, 2) := by decide +kernel
theorem din1_31 : decode prog_44_method_1_code 31 = .ok (.aload 7, 2) := by decide +kernel
theorem din1_33 : decode prog_44_method_1_code 33 = .ok (.arraylength, 1) := by decide +kernel
theorem din1_34 : decode prog_44_method_1_code 34 = .ok (.istore 8, 2) := by decide +kernel
theorem din1_36 : decode prog_44_method_1_code 36 = .ok (.iconst 0, 1) := by decide +kernel
theorem din1_37 : decode prog_44_method_1_code 37 = .ok (.istore 9, 2) := by decide +kernel
theorem din1_39 : decode prog_44_method_1_code 39 = .ok (.iload 9, 2) := by decide +kernel
theorem din1_41 : decode prog_44_method_1_code 41 = .ok (.iload 8, 2) := by decide +kernel
theorem din1_43 : decode prog_44_method_1_code 43 = .ok (.if_icmp .ge 24, 3) := by decide +kernel
theorem din1_46 : decode prog_44_method_1_code 46 = .ok (.aload 7, 2) := by decide +kernel
theorem din1_48 : decode prog_44_method_1_code 48 = .ok (.iload 9, 2) := by decide +kernel
theorem din1_50 : decode prog_44_method_1_code 50 = .ok (.iaload, 1) := by decide +kernel
theorem din1_51 : decode prog_44_method_1_code 51 = .ok (.istore 10, 2) := by decide +kernel
theorem din1_53 : decode prog_44_method_1_code 53 = .ok (.lload 5, 2) := by decide +kernel
theorem din1_55 : decode prog_44_method_1_code 55 = .ok (.iload 10, 2) := by decide +kernel
theorem din1_57 : decode prog_44_method_1_code 57 = .ok (.i2l, 1) := by decide +kernel
theorem din1_58 : decode prog_44_method_1_code 58 = .ok (.ladd, 1) := by decide +kernel
theorem din1_59 : decode prog_44_method_1_code 59 = .ok (.lstore 5, 2) := by decide +kernel
theorem din1_61 : decode prog_44_method_1_code 61 = .ok (.iinc 9 1, 3) := by decide +kernel
theorem din1_64 : decode prog_44_method_1_code 64 = .ok (.goto (-25), 3) := by decide +kernel
theorem din1_67 : decode prog_44_method_1_code 67 = .ok (.aload_n 0, 1) := by decide +kernel
theorem din1_68 : decode prog_44_method_1_code 68 = .ok (.lload 5, 2) := by decide +kernel
theorem din1_70 : decode prog_44_method_1_code 70 = .ok (.putfield 23, 3) := by decide +kernel
theorem din1_73 : decode prog_44_method_1_code 73 = .ok (.return_, 1) := by decide +kernel
theorem efin1 (m : MethodId) (x0 : Addr) (x1 : Addr) (x2 : Addr) (x3 : Addr) (x4 : Addr) : entryFrame m #[(.ref x0), (.ref x1), (.ref x2), (.ref x3), (.ref x4)] 11 = mkF m 0 #[.val (.ref x0), .val (.ref x1), .val (.ref x2), .val (.ref x3), .val (.ref x4), .unset, .unset, .unset, .unset, .unset, .unset] [] := by first | (simp [entryFrame, mkF, argsToLocals, Value.category]; done) | rfl
set_option maxRecDepth 65536 in
set_option maxHeartbeats 40000000 in
theorem rm_in1 (l : Launch) (Z : State) (a0 : Array Value) (hw : ∀ d ∈ tables_1, d.before a0 Z = true) (ws : List Jvm.Cond) (o1 : Addr) (r1 : Addr) (t1 : Addr) (c1 : Addr) (s1 : Addr) (kc : ClassId) (h0 : Heap) (n0 : Nat) (Z0 : n0 ≤ h0.size) (E1 : Exa Z h0 o1 "com/example/rank3/rank3/text/Postings") (F1_resources : Fld Z h0 o1 "com/example/rank3/rank3/text/Postings" "resources" "[I" .null) (F1_titleCounts : Fld Z h0 o1 "com/example/rank3/rank3/text/Postings" "titleCounts" "[I" .null) (F1_contentCounts : Fld Z h0 o1 "com/example/rank3/rank3/text/Postings" "contentCounts" "[I" .null) (F1_inStructure : Fld Z h0 o1 "com/example/rank3/rank3/text/Postings" "inStructure" "[Z" .null) (F1_collectionCount : Fld Z h0 o1 "com/example/rank3/rank3/text/Postings" "collectionCount" "J" (.long (0 : Int64))) (ge : n0 ≤ o1) (Vc : Arv Z h0 c1 kc .int (1 : Int32) [(.int (0 : Int32))] (.int (0 : Int32))) (hne : c1 ≠ o1) :
    own_Met l Z ws (⟨"com/example/rank3/rank3/text/Postings", "<init>", "([I[I[I[Z)V"⟩ : MethodName) prog_44_method_1_code 11 none ({ frames := 1, cells := 0, slots := 0, locals := 12 } : Room) #[(.ref o1), (.ref r1), (.ref t1), (.ref c1), (.ref s1)] h0 (fun v h L => v = none ∧ Fr n0 L ∧ Keep h0 h [o1] ∧ Exa Z h o1 "com/example/rank3/rank3/text/Postings" ∧ Fld Z h o1 "com/example/rank3/rank3/text/Postings" "resources" "[I" (.ref r1)) := by
  refine own_body (plainFor_of_name pn_1) ?_
  intro p e s m below meth c s₁ hx hby hml hret hlk hown hnm hZ X0 e0
  have hml : c.maxLocals = 11 := hml
  have hown : s.vm.findClass "com/example/rank3/rank3/text/Postings" = some m.cls := hown
  have N0 := Fr.nil n0
  refine own_cast (efin1 m o1 r1 t1 c1 s1) ?_
  show own_Go p e below _ s₁ (mkF m 0 #[.val (.ref o1), .val (.ref r1), .val (.ref t1), .val (.ref c1), .val (.ref s1), .unset, .unset, .unset, .unset, .unset, .unset] [])
  refine own_st (fun t k => XS.aloadN X0.here hx rfl (hb hby din1_0) rfl rfl k) ?_
  show own_Go p e below _ s₁ (mkF m 1 #[.val (.ref o1), .val (.ref r1), .val (.ref t1), .val (.ref c1), .val (.ref s1), .unset, .unset, .unset, .unset, .unset, .unset] [(.ref o1)])
  obtain ⟨T1, X1, e1, st1⟩ := initO X0 hx hZ hown (hw _ (List.mem_of_getElem? (i := 15) rfl)) (hw _ (List.mem_of_getElem? (i := 16) rfl)) (hw _ (List.mem_of_getElem? (i := 17) rfl)) e0 (g := (mkF m 1 #[.val (.ref o1), .val (.ref r1), .val (.ref t1), .val (.ref c1), .val (.ref s1), .unset, .unset, .unset, .unset, .unset, .unset] [(.ref o1)])) rfl (by rw [hml]; rfl) rfl (hb hby din1_1) (by decide) (W := 0) (by show 2 * 0 + _ ≤ _; exact Nat.le_of_eq rfl) (by decide)
  refine own_st st1 ?_
  show own_Go p e below _ T1 (mkF m 4 #[.val (.ref o1), .val (.ref r1), .val (.ref t1), .val (.ref c1), .val (.ref s1), .unset, .unset, .unset, .unset, .unset, .unset] [])
  refine own_st (fun t k => XS.aloadN X1.here hx rfl (hb hby din1_4) rfl rfl k) ?_
  show own_Go p e below _ T1 (mkF m 5 #[.val (.ref o1), .val (.ref r1), .val (.ref t1), .val (.ref c1), .val (.ref s1), .unset, .unset, .unset, .unset, .unset, .unset] [(.ref o1)])
  refine own_st (fun t k => XS.aloadN X1.here hx rfl (hb hby din1_5) rfl rfl k) ?_
  show own_Go p e below _ T1 (mkF m 6 #[.val (.ref o1), .val (.ref r1), .val (.ref t1), .val (.ref c1), .val (.ref s1), .unset, .unset, .unset, .unset, .unset, .unset] [(.ref r1), (.ref o1)])
  obtain ⟨T6, h6, X6, e6, W6, st6⟩ := putF X1 hx hZ hown (host := "") (Or.inl (hw _ (List.mem_of_getElem? (i := 18) rfl))) Via.refl e1 F1_resources E1 (Or.inr ⟨(hw _ (List.mem_of_getElem? (i := 19) rfl)), rfl, hnm⟩) (hw _ (List.mem_of_getElem? (i := 9) rfl)) (ty := (.array .int)) (by decide) rfl rfl (g := (mkF m 6 #[.val (.ref o1), .val (.ref r1), .val (.ref t1), .val (.ref c1), .val (.ref s1), .unset, .unset, .unset, .unset, .unset, .unset] [(.ref r1), (.ref o1)])) rfl rfl (hb hby din1_6)
  refine own_st st6 ?_
  have N6 := Fr.snoc X6 N0 ge
  have E6_o := E1.wr W6
  have F6_resources := F1_resources.same W6
  have F6_titleCounts := F1_titleCounts.other W6 (Or.inr (slot_ne (Or.inr (hw _ (List.mem_of_getElem? (i := 21) rfl))) (Or.inr (hw _ (List.mem_of_getElem? (i := 19) rfl))) (by decide) (t := (.array .int)) (t' := (.array .int)) (by decide) (by decide)))
  have F6_contentCounts := F1_contentCounts.other W6 (Or.inr (slot_ne (Or.inr (hw _ (List.mem_of_getElem? (i := 23) rfl))) (Or.inr (hw _ (List.mem_of_getElem? (i := 19) rfl))) (by decide) (t := (.array .int)) (t' := (.array .int)) (by decide) (by decide)))
  have F6_inStructure := F1_inStructure.other W6 (Or.inr (slot_ne (Or.inr (hw _ (List.mem_of_getElem? (i := 25) rfl))) (Or.inr (hw _ (List.mem_of_getElem? (i := 19) rfl))) (by decide) (t := (.array .boolean)) (t' := (.array .int)) (by decide) (by decide)))
  have F6_collectionCount := F1_collectionCount.other W6 (Or.inr (slot_ne (Or.inr (hw _ (List.mem_of_getElem? (i := 27) rfl))) (Or.inr (hw _ (List.mem_of_getElem? (i := 19) rfl))) (by decide) (t := .long) (t' := (.array .int)) (by decide) (by decide)))
  have VC6 := Vc.other W6 hne
  have K6 : Keep h0 h6 [o1] := (Keep.refl h0 [o1]).wr W6 (Or.inl (List.mem_of_getElem? (i := 0) rfl))
  show own_Go p e below _ T6 (mkF m 9 #[.val (.ref o1), .val (.ref r1), .val (.ref t1), .val (.ref c1), .val (.ref s1), .unset, .unset, .unset, .unset, .unset, .unset] [])
  refine own_st (fun t k => XS.aloadN X6.here hx rfl (hb hby din1_9) rfl rfl k) ?_
  show own_Go p e below _ T6 (mkF m 10 #[.val (.ref o1), .val (.ref r1), .val (.ref t1), .val (.ref c1), .val (.ref s1), .unset, .unset, .unset, .unset, .unset, .unset] [(.ref o1)])
  refine own_st (fun t k => XS.aloadN X6.here hx rfl (hb hby din1_10) rfl rfl k) ?_
  show own_Go p e below _ T6 (mkF m 11 #[.val (.ref o1), .val (.ref r1), .val (.ref t1), .val (.ref c1), .val (.ref s1), .unset, .unset, .unset, .unset, .unset, .unset] [(.ref t1), (.ref o1)])
  obtain ⟨T11, h11, X11, e11, W11, st11⟩ := putF X6 hx hZ hown (host := "") (Or.inl (hw _ (List.mem_of_getElem? (i := 20) rfl))) Via.refl e6 F6_titleCounts E6_o (Or.inr ⟨(hw _ (List.mem_of_getElem? (i := 21) rfl)), rfl, hnm⟩) (hw _ (List.mem_of_getElem? (i := 9) rfl)) (ty := (.array .int)) (by decide) rfl rfl (g := (mkF m 11 #[.val (.ref o1), .val (.ref r1), .val (.ref t1), .val (.ref c1), .val (.ref s1), .unset, .unset, .unset, .unset, .unset, .unset] [(.ref t1), (.ref o1)])) rfl rfl (hb hby din1_11)
  refine own_st st11 ?_
  have N11 := Fr.snoc X11 N6 ge
  have E11_o := E6_o.wr W11
  have F11_resources := F6_resources.other W11 (Or.inr (slot_ne (Or.inr (hw _ (List.mem_of_getElem? (i := 19) rfl))) (Or.inr (hw _ (List.mem_of_getElem? (i := 21) rfl))) (by decide) (t := (.array .int)) (t' := (.array .int)) (by decide) (by decide)))
  have F11_titleCounts := F6_titleCounts.same W11
  have F11_contentCounts := F6_contentCounts.other W11 (Or.inr (slot_ne (Or.inr (hw _ (List.mem_of_getElem? (i := 23) rfl))) (Or.inr (hw _ (List.mem_of_getElem? (i := 21) rfl))) (by decide) (t := (.array .int)) (t' := (.array .int)) (by decide) (by decide)))
  have F11_inStructure := F6_inStructure.other W11 (Or.inr (slot_ne (Or.inr (hw _ (List.mem_of_getElem? (i := 25) rfl))) (Or.inr (hw _ (List.mem_of_getElem? (i := 21) rfl))) (by decide) (t := (.array .boolean)) (t' := (.array .int)) (by decide) (by decide)))
  have F11_collectionCount := F6_collectionCount.other W11 (Or.inr (slot_ne (Or.inr (hw _ (List.mem_of_getElem? (i := 27) rfl))) (Or.inr (hw _ (List.mem_of_getElem? (i := 21) rfl))) (by decide) (t := .long) (t' := (.array .int)) (by decide) (by decide)))
  have VC11 := VC6.other W11 hne
  have K11 : Keep h0 h11 [o1] := K6.wr W11 (Or.inl (List.mem_of_getElem? (i := 0) rfl))
  show own_Go p e below _ T11 (mkF m 14 #[.val (.ref o1), .val (.ref r1), .val (.ref t1), .val (.ref c1), .val (.ref s1), .unset, .unset, .unset, .unset, .unset, .unset] [])
  refine own_st (fun t k => XS.aloadN X11.here hx rfl (hb hby din1_14) rfl rfl k) ?_
  show own_Go p e below _ T11 (mkF m 15 #[.val (.ref o1), .val (.ref r1), .val (.ref t1), .val (.ref c1), .val (.ref s1), .unset, .unset, .unset, .unset, .unset, .unset] [(.ref o1)])
  refine own_st (fun t k => XS.aloadN X11.here hx rfl (hb hby din1_15) rfl rfl k) ?_
  show own_Go p e below _ T11 (mkF m 16 #[.val (.ref o1), .val (.ref r1), .val (.ref t1), .val (.ref c1), .val (.ref s1), .unset, .unset, .unset, .unset, .unset, .unset] [(.ref c1), (.ref o1)])
  obtain ⟨T16, h16, X16, e16, W16, st16⟩ := putF X11 hx hZ hown (host := "") (Or.inl (hw _ (List.mem_of_getElem? (i := 22) rfl))) Via.refl e11 F11_contentCounts E11_o (Or.inr ⟨(hw _ (List.mem_of_getElem? (i := 23) rfl)), rfl, hnm⟩) (hw _ (List.mem_of_getElem? (i := 9) rfl)) (ty := (.array .int)) (by decide) rfl rfl (g := (mkF m 16 #[.val (.ref o1), .val (.ref r1), .val (.ref t1), .val (.ref c1), .val (.ref s1), .unset, .unset, .unset, .unset, .unset, .unset] [(.ref c1), (.ref o1)])) rfl rfl (hb hby din1_16)
  refine own_st st16 ?_
  have N16 := Fr.snoc X16 N11 ge
  have E16_o := E11_o.wr W16
  have F16_resources := F11_resources.other W16 (Or.inr (slot_ne (Or.inr (hw _ (List.mem_of_getElem? (i := 19) rfl))) (Or.inr (hw _ (List.mem_of_getElem? (i := 23) rfl))) (by decide) (t := (.array .int)) (t' := (.array .int)) (by decide) (by decide)))
  have F16_titleCounts := F11_titleCounts.other W16 (Or.inr (slot_ne (Or.inr (hw _ (List.mem_of_getElem? (i := 21) rfl))) (Or.inr (hw _ (List.mem_of_getElem? (i := 23) rfl))) (by decide) (t := (.array .int)) (t' := (.array .int)) (by decide) (by decide)))
  have F16_contentCounts := F11_contentCounts.same W16
  have F16_inStructure := F11_inStructure.other W16 (Or.inr (slot_ne (Or.inr (hw _ (List.mem_of_getElem? (i := 25) rfl))) (Or.inr (hw _ (List.mem_of_getElem? (i := 23) rfl))) (by decide) (t := (.array .boolean)) (t' := (.array .int)) (by decide) (by decide)))
  have F16_collectionCount := F11_collectionCount.other W16 (Or.inr (slot_ne (Or.inr (hw _ (List.mem_of_getElem? (i := 27) rfl))) (Or.inr (hw _ (List.mem_of_getElem? (i := 23) rfl))) (by decide) (t := .long) (t' := (.array .int)) (by decide) (by decide)))
  have VC16 := VC11.other W16 hne
  have K16 : Keep h0 h16 [o1] := K11.wr W16 (Or.inl (List.mem_of_getElem? (i := 0) rfl))
  show own_Go p e below _ T16 (mkF m 19 #[.val (.ref o1), .val (.ref r1), .val (.ref t1), .val (.ref c1), .val (.ref s1), .unset, .unset, .unset, .unset, .unset, .unset] [])
  refine own_st (fun t k => XS.aloadN X16.here hx rfl (hb hby din1_19) rfl rfl k) ?_
  show own_Go p e below _ T16 (mkF m 20 #[.val (.ref o1), .val (.ref r1), .val (.ref t1), .val (.ref c1), .val (.ref s1), .unset, .unset, .unset, .unset, .unset, .unset] [(.ref o1)])
  refine own_st (fun t k => XS.aload X16.here hx rfl (hb hby din1_20) rfl rfl k) ?_
  show own_Go p e below _ T16 (mkF m 22 #[.val (.ref o1), .val (.ref r1), .val (.ref t1), .val (.ref c1), .val (.ref s1), .unset, .unset, .unset, .unset, .unset, .unset] [(.ref s1), (.ref o1)])
  obtain ⟨T22, h22, X22, e22, W22, st22⟩ := putF X16 hx hZ hown (host := "") (Or.inl (hw _ (List.mem_of_getElem? (i := 24) rfl))) Via.refl e16 F16_inStructure E16_o (Or.inr ⟨(hw _ (List.mem_of_getElem? (i := 25) rfl)), rfl, hnm⟩) (hw _ (List.mem_of_getElem? (i := 9) rfl)) (ty := (.array .boolean)) (by decide) rfl rfl (g := (mkF m 22 #[.val (.ref o1), .val (.ref r1), .val (.ref t1), .val (.ref c1), .val (.ref s1), .unset, .unset, .unset, .unset, .unset, .unset] [(.ref s1), (.ref o1)])) rfl rfl (hb hby din1_22)
  refine own_st st22 ?_
  have N22 := Fr.snoc X22 N16 ge
  have E22_o := E16_o.wr W22
  have F22_resources := F16_resources.other W22 (Or.inr (slot_ne (Or.inr (hw _ (List.mem_of_getElem? (i := 19) rfl))) (Or.inr (hw _ (List.mem_of_getElem? (i := 25) rfl))) (by decide) (t := (.array .int)) (t' := (.array .boolean)) (by decide) (by decide)))
  have F22_titleCounts := F16_titleCounts.other W22 (Or.inr (slot_ne (Or.inr (hw _ (List.mem_of_getElem? (i := 21) rfl))) (Or.inr (hw _ (List.mem_of_getElem? (i := 25) rfl))) (by decide) (t := (.array .int)) (t' := (.array .boolean)) (by decide) (by decide)))
  have F22_contentCounts := F16_contentCounts.other W22 (Or.inr (slot_ne (Or.inr (hw _ (List.mem_of_getElem? (i := 23) rfl))) (Or.inr (hw _ (List.mem_of_getElem? (i := 25) rfl))) (by decide) (t := (.array .int)) (t' := (.array .boolean)) (by decide) (by decide)))
  have F22_inStructure := F16_inStructure.same W22
  have F22_collectionCount := F16_collectionCount.other W22 (Or.inr (slot_ne (Or.inr (hw _ (List.mem_of_getElem? (i := 27) rfl))) (Or.inr (hw _ (List.mem_of_getElem? (i := 25) rfl))) (by decide) (t := .long) (t' := (.array .boolean)) (by decide) (by decide)))
  have VC22 := VC16.other W22 hne
  have K22 : Keep h0 h22 [o1] := K16.wr W22 (Or.inl (List.mem_of_getElem? (i := 0) rfl))
  show own_Go p e below _ T22 (mkF m 25 #[.val (.ref o1), .val (.ref r1), .val (.ref t1), .val (.ref c1), .val (.ref s1), .unset, .unset, .unset, .unset, .unset, .unset] [])
  refine own_st (fun t k => XS.lconst X22.here hx rfl (hb hby din1_25) k) ?_
  show own_Go p e below _ T22 (mkF m 26 #[.val (.ref o1), .val (.ref r1), .val (.ref t1), .val (.ref c1), .val (.ref s1), .unset, .unset, .unset, .unset, .unset, .unset] [(.long (0 : Int64))])
  refine own_st (fun t k => XS.lstore X22.here hx rfl (hb hby din1_26) rfl (l' := #[.val (.ref o1), .val (.ref r1), .val (.ref t1), .val (.ref c1), .val (.ref s1), .val (.long (0 : Int64)), .second, .unset, .unset, .unset, .unset]) rfl k) ?_
  show own_Go p e below _ T22 (mkF m 28 #[.val (.ref o1), .val (.ref r1), .val (.ref t1), .val (.ref c1), .val (.ref s1), .val (.long (0 : Int64)), .second, .unset, .unset, .unset, .unset] [])
  refine own_st (fun t k => XS.aloadN X22.here hx rfl (hb hby din1_28) rfl rfl k) ?_
  show own_Go p e below _ T22 (mkF m 29 #[.val (.ref o1), .val (.ref r1), .val (.ref t1), .val (.ref c1), .val (.ref s1), .val (.long (0 : Int64)), .second, .unset, .unset, .unset, .unset] [(.ref c1)])
  refine own_st (fun t k => XS.astore X22.here hx rfl (hb hby din1_29) rfl rfl (l' := #[.val (.ref o1), .val (.ref r1), .val (.ref t1), .val (.ref c1), .val (.ref s1), .val (.long (0 : Int64)), .second, .val (.ref c1), .unset, .unset, .unset]) rfl k) ?_
  show own_Go p e below _ T22 (mkF m 31 #[.val (.ref o1), .val (.ref r1), .val (.ref t1), .val (.ref c1), .val (.ref s1), .val (.long (0 : Int64)), .second, .val (.ref c1), .unset, .unset, .unset] [])
  refine own_st (fun t k => XS.aload X22.here hx rfl (hb hby din1_31) rfl rfl k) ?_
  show own_Go p e below _ T22 (mkF m 33 #[.val (.ref o1), .val (.ref r1), .val (.ref t1), .val (.ref c1), .val (.ref s1), .val (.long (0 : Int64)), .second, .val (.ref c1), .unset, .unset, .unset] [(.ref c1)])
  obtain ⟨cl33, Ar33, -, S33, M33, -, -⟩ := id VC22
  refine own_st (X22.arraylength hx (by rw [e22]; exact Ar33.1) (State.isArrayOf_alike hZ.alike Ar33.2.1) (g := (mkF m 33 #[.val (.ref o1), .val (.ref r1), .val (.ref t1), .val (.ref c1), .val (.ref s1), .val (.long (0 : Int64)), .second, .val (.ref c1), .unset, .unset, .unset] [(.ref c1)])) rfl rfl (hb hby din1_33)) ?_
  rw [len_of S33 M33]
  show own_Go p e below _ T22 (mkF m 34 #[.val (.ref o1), .val (.ref r1), .val (.ref t1), .val (.ref c1), .val (.ref s1), .val (.long (0 : Int64)), .second, .val (.ref c1), .unset, .unset, .unset] [(.int (1 : Int32))])
  refine own_st (fun t k => XS.istore X22.here hx rfl (hb hby din1_34) rfl (l' := #[.val (.ref o1), .val (.ref r1), .val (.ref t1), .val (.ref c1), .val (.ref s1), .val (.long (0 : Int64)), .second, .val (.ref c1), .val (.int (1 : Int32)), .unset, .unset]) rfl k) ?_
  show own_Go p e below _ T22 (mkF m 36 #[.val (.ref o1), .val (.ref r1), .val (.ref t1), .val (.ref c1), .val (.ref s1), .val (.long (0 : Int64)), .second, .val (.ref c1), .val (.int (1 : Int32)), .unset, .unset] [])
  refine own_st (fun t k => XS.iconst X22.here hx rfl (hb hby din1_36) k) ?_
  show own_Go p e below _ T22 (mkF m 37 #[.val (.ref o1), .val (.ref r1), .val (.ref t1), .val (.ref c1), .val (.ref s1), .val (.long (0 : Int64)), .second, .val (.ref c1), .val (.int (1 : Int32)), .unset, .unset] [(.int (0 : Int32))])
  refine own_st (fun t k => XS.istore X22.here hx rfl (hb hby din1_37) rfl (l' := #[.val (.ref o1), .val (.ref r1), .val (.ref t1), .val (.ref c1), .val (.ref s1), .val (.long (0 : Int64)), .second, .val (.ref c1), .val (.int (1 : Int32)), .val (.int (0 : Int32)), .unset]) rfl k) ?_
  show own_Go p e below _ T22 (mkF m 39 #[.val (.ref o1), .val (.ref r1), .val (.ref t1), .val (.ref c1), .val (.ref s1), .val (.long (0 : Int64)), .second, .val (.ref c1), .val (.int (1 : Int32)), .val (.int (0 : Int32)), .unset] [])
  refine own_st (fun t k => XS.iload X22.here hx rfl (hb hby din1_39) rfl  k) ?_
  show own_Go p e below _ T22 (mkF m 41 #[.val (.ref o1), .val (.ref r1), .val (.ref t1), .val (.ref c1), .val (.ref s1), .val (.long (0 : Int64)), .second, .val (.ref c1), .val (.int (1 : Int32)), .val (.int (0 : Int32)), .unset] [(.int (0 : Int32))])
  refine own_st (fun t k => XS.iload X22.here hx rfl (hb hby din1_41) rfl  k) ?_
  show own_Go p e below _ T22 (mkF m 43 #[.val (.ref o1), .val (.ref r1), .val (.ref t1), .val (.ref c1), .val (.ref s1), .val (.long (0 : Int64)), .second, .val (.ref c1), .val (.int (1 : Int32)), .val (.int (0 : Int32)), .unset] [(.int (1 : Int32)), (.int (0 : Int32))])
  refine own_st (fun t k => XS.icmpNo X22.here hx rfl (hb hby din1_43) rfl (tlt (by decide : (0 : Int32) < (1 : Int32))).2.1 k) ?_
  show own_Go p e below _ T22 (mkF m 46 #[.val (.ref o1), .val (.ref r1), .val (.ref t1), .val (.ref c1), .val (.ref s1), .val (.long (0 : Int64)), .second, .val (.ref c1), .val (.int (1 : Int32)), .val (.int (0 : Int32)), .unset] [])
  refine own_st (fun t k => XS.aload X22.here hx rfl (hb hby din1_46) rfl rfl k) ?_
  show own_Go p e below _ T22 (mkF m 48 #[.val (.ref o1), .val (.ref r1), .val (.ref t1), .val (.ref c1), .val (.ref s1), .val (.long (0 : Int64)), .second, .val (.ref c1), .val (.int (1 : Int32)), .val (.int (0 : Int32)), .unset] [(.ref c1)])
  refine own_st (fun t k => XS.iload X22.here hx rfl (hb hby din1_48) rfl  k) ?_
  show own_Go p e below _ T22 (mkF m 50 #[.val (.ref o1), .val (.ref r1), .val (.ref t1), .val (.ref c1), .val (.ref s1), .val (.long (0 : Int64)), .second, .val (.ref c1), .val (.int (1 : Int32)), .val (.int (0 : Int32)), .unset] [(.int (0 : Int32)), (.ref c1)])
  obtain ⟨cli0, Ari0, -, Si0, Mi0, Hi0, Gi0⟩ := id VC22
  have hini0 : ¬ ((0 : Int32) < 0 ∨ cli0.slots.size ≤ ((0 : Int32)).toNatClampNeg) := inb_of Si0 ⟨by decide, by decide⟩
  refine own_st (X22.iaload hx (j := (0 : Int32)) (v := (.int (0 : Int32))) (by rw [e22]; exact Ari0.1) (State.isArrayOf_alike hZ.alike Ari0.2.1) Ari0.2.2 hini0 (Has.at Hi0 hini0 rfl) (g := (mkF m 50 #[.val (.ref o1), .val (.ref r1), .val (.ref t1), .val (.ref c1), .val (.ref s1), .val (.long (0 : Int64)), .second, .val (.ref c1), .val (.int (1 : Int32)), .val (.int (0 : Int32)), .unset] [(.int (0 : Int32)), (.ref c1)])) rfl rfl (hb hby din1_50)) ?_
  show own_Go p e below _ T22 (mkF m 51 #[.val (.ref o1), .val (.ref r1), .val (.ref t1), .val (.ref c1), .val (.ref s1), .val (.long (0 : Int64)), .second, .val (.ref c1), .val (.int (1 : Int32)), .val (.int (0 : Int32)), .unset] [(.int (0 : Int32))])
  refine own_st (fun t k => XS.istore X22.here hx rfl (hb hby din1_51) rfl (l' := #[.val (.ref o1), .val (.ref r1), .val (.ref t1), .val (.ref c1), .val (.ref s1), .val (.long (0 : Int64)), .second, .val (.ref c1), .val (.int (1 : Int32)), .val (.int (0 : Int32)), .val (.int (0 : Int32))]) rfl k) ?_
  show own_Go p e below _ T22 (mkF m 53 #[.val (.ref o1), .val (.ref r1), .val (.ref t1), .val (.ref c1), .val (.ref s1), .val (.long (0 : Int64)), .second, .val (.ref c1), .val (.int (1 : Int32)), .val (.int (0 : Int32)), .val (.int (0 : Int32))] [])
  refine own_st (fun t k => XS.lload X22.here hx rfl (hb hby din1_53) rfl  k) ?_
  show own_Go p e below _ T22 (mkF m 55 #[.val (.ref o1), .val (.ref r1), .val (.ref t1), .val (.ref c1), .val (.ref s1), .val (.long (0 : Int64)), .second, .val (.ref c1), .val (.int (1 : Int32)), .val (.int (0 : Int32)), .val (.int (0 : Int32))] [(.long (0 : Int64))])
  refine own_st (fun t k => XS.iload X22.here hx rfl (hb hby din1_55) rfl  k) ?_
  show own_Go p e below _ T22 (mkF m 57 #[.val (.ref o1), .val (.ref r1), .val (.ref t1), .val (.ref c1), .val (.ref s1), .val (.long (0 : Int64)), .second, .val (.ref c1), .val (.int (1 : Int32)), .val (.int (0 : Int32)), .val (.int (0 : Int32))] [(.int (0 : Int32)), (.long (0 : Int64))])
  refine own_st (fun t k => XS.i2l X22.here hx rfl (hb hby din1_57) rfl k) ?_
  show own_Go p e below _ T22 (mkF m 58 #[.val (.ref o1), .val (.ref r1), .val (.ref t1), .val (.ref c1), .val (.ref s1), .val (.long (0 : Int64)), .second, .val (.ref c1), .val (.int (1 : Int32)), .val (.int (0 : Int32)), .val (.int (0 : Int32))] [(.long ((0 : Int32).toInt64)), (.long (0 : Int64))])
  refine own_st (fun t k => XS.ladd X22.here hx rfl (hb hby din1_58) rfl k) ?_
  show own_Go p e below _ T22 (mkF m 59 #[.val (.ref o1), .val (.ref r1), .val (.ref t1), .val (.ref c1), .val (.ref s1), .val (.long (0 : Int64)), .second, .val (.ref c1), .val (.int (1 : Int32)), .val (.int (0 : Int32)), .val (.int (0 : Int32))] [(.long ((0 : Int64) + ((0 : Int32).toInt64)))])
  refine own_st (fun t k => XS.lstore X22.here hx rfl (hb hby din1_59) rfl (l' := #[.val (.ref o1), .val (.ref r1), .val (.ref t1), .val (.ref c1), .val (.ref s1), .val (.long ((0 : Int64) + ((0 : Int32).toInt64))), .second, .val (.ref c1), .val (.int (1 : Int32)), .val (.int (0 : Int32)), .val (.int (0 : Int32))]) rfl k) ?_
  show own_Go p e below _ T22 (mkF m 61 #[.val (.ref o1), .val (.ref r1), .val (.ref t1), .val (.ref c1), .val (.ref s1), .val (.long ((0 : Int64) + ((0 : Int32).toInt64))), .second, .val (.ref c1), .val (.int (1 : Int32)), .val (.int (0 : Int32)), .val (.int (0 : Int32))] [])
  refine own_st (fun t k => XS.iinc X22.here hx rfl (hb hby din1_61) rfl (l' := #[.val (.ref o1), .val (.ref r1), .val (.ref t1), .val (.ref c1), .val (.ref s1), .val (.long ((0 : Int64) + ((0 : Int32).toInt64))), .second, .val (.ref c1), .val (.int (1 : Int32)), .val (.int ((0 : Int32) + (1 : Int32))), .val (.int (0 : Int32))]) rfl k) ?_
  show own_Go p e below _ T22 (mkF m 64 #[.val (.ref o1), .val (.ref r1), .val (.ref t1), .val (.ref c1), .val (.ref s1), .val (.long ((0 : Int64) + ((0 : Int32).toInt64))), .second, .val (.ref c1), .val (.int (1 : Int32)), .val (.int ((0 : Int32) + (1 : Int32))), .val (.int (0 : Int32))] [])
  show own_Go p e below _ T22 (mkF m 64 #[.val (.ref o1), .val (.ref r1), .val (.ref t1), .val (.ref c1), .val (.ref s1), .val (.long ((0 : Int64) + ((0 : Int32).toInt64))), .second, .val (.ref c1), .val (.int (1 : Int32)), .val (.int (1 : Int32)), .val (.int (0 : Int32))] [])
  refine own_st (fun t k => XS.goto X22.here hx rfl (pc0 := 64) (pc' := 39) rfl (hb hby din1_64) (by decide) (by decide) k) ?_
  show own_Go p e below _ T22 (mkF m 39 #[.val (.ref o1), .val (.ref r1), .val (.ref t1), .val (.ref c1), .val (.ref s1), .val (.long ((0 : Int64) + ((0 : Int32).toInt64))), .second, .val (.ref c1), .val (.int (1 : Int32)), .val (.int (1 : Int32)), .val (.int (0 : Int32))] [])
  refine own_st (fun t k => XS.iload X22.here hx rfl (hb hby din1_39) rfl  k) ?_
  show own_Go p e below _ T22 (mkF m 41 #[.val (.ref o1), .val (.ref r1), .val (.ref t1), .val (.ref c1), .val (.ref s1), .val (.long ((0 : Int64) + ((0 : Int32).toInt64))), .second, .val (.ref c1), .val (.int (1 : Int32)), .val (.int (1 : Int32)), .val (.int (0 : Int32))] [(.int (1 : Int32))])
  refine own_st (fun t k => XS.iload X22.here hx rfl (hb hby din1_41) rfl  k) ?_
  show own_Go p e below _ T22 (mkF m 43 #[.val (.ref o1), .val (.ref r1), .val (.ref t1), .val (.ref c1), .val (.ref s1), .val (.long ((0 : Int64) + ((0 : Int32).toInt64))), .second, .val (.ref c1), .val (.int (1 : Int32)), .val (.int (1 : Int32)), .val (.int (0 : Int32))] [(.int (1 : Int32)), (.int (1 : Int32))])
  refine own_st (fun t k => XS.icmpYes X22.here hx rfl (pc0 := 43) (pc' := 67) rfl (hb hby din1_43) rfl (flt (by decide : ¬ (1 : Int32) < (1 : Int32))).2.1 (by decide) (by decide) k) ?_
  show own_Go p e below _ T22 (mkF m 67 #[.val (.ref o1), .val (.ref r1), .val (.ref t1), .val (.ref c1), .val (.ref s1), .val (.long ((0 : Int64) + ((0 : Int32).toInt64))), .second, .val (.ref c1), .val (.int (1 : Int32)), .val (.int (1 : Int32)), .val (.int (0 : Int32))] [])
  refine own_st (fun t k => XS.aloadN X22.here hx rfl (hb hby din1_67) rfl rfl k) ?_
  show own_Go p e below _ T22 (mkF m 68 #[.val (.ref o1), .val (.ref r1), .val (.ref t1), .val (.ref c1), .val (.ref s1), .val (.long ((0 : Int64) + ((0 : Int32).toInt64))), .second, .val (.ref c1), .val (.int (1 : Int32)), .val (.int (1 : Int32)), .val (.int (0 : Int32))] [(.ref o1)])
  refine own_st (fun t k => XS.lload X22.here hx rfl (hb hby din1_68) rfl  k) ?_
  show own_Go p e below _ T22 (mkF m 70 #[.val (.ref o1), .val (.ref r1), .val (.ref t1), .val (.ref c1), .val (.ref s1), .val (.long ((0 : Int64) + ((0 : Int32).toInt64))), .second, .val (.ref c1), .val (.int (1 : Int32)), .val (.int (1 : Int32)), .val (.int (0 : Int32))] [(.long ((0 : Int64) + ((0 : Int32).toInt64))), (.ref o1)])
  obtain ⟨T70, h70, X70, e70, W70, st70⟩ := putF X22 hx hZ hown (host := "") (Or.inl (hw _ (List.mem_of_getElem? (i := 26) rfl))) Via.refl e22 F22_collectionCount E22_o (Or.inr ⟨(hw _ (List.mem_of_getElem? (i := 27) rfl)), rfl, hnm⟩) (hw _ (List.mem_of_getElem? (i := 9) rfl)) (ty := .long) (by decide) rfl rfl (g := (mkF m 70 #[.val (.ref o1), .val (.ref r1), .val (.ref t1), .val (.ref c1), .val (.ref s1), .val (.long ((0 : Int64) + ((0 : Int32).toInt64))), .second, .val (.ref c1), .val (.int (1 : Int32)), .val (.int (1 : Int32)), .val (.int (0 : Int32))] [(.long ((0 : Int64) + ((0 : Int32).toInt64))), (.ref o1)])) rfl rfl (hb hby din1_70)
  refine own_st st70 ?_
  have N70 := Fr.snoc X70 N22 ge
  have E70_o := E22_o.wr W70
  have F70_resources := F22_resources.other W70 (Or.inr (slot_ne (Or.inr (hw _ (List.mem_of_getElem? (i := 19) rfl))) (Or.inr (hw _ (List.mem_of_getElem? (i := 27) rfl))) (by decide) (t := (.array .int)) (t' := .long) (by decide) (by decide)))
  have F70_titleCounts := F22_titleCounts.other W70 (Or.inr (slot_ne (Or.inr (hw _ (List.mem_of_getElem? (i := 21) rfl))) (Or.inr (hw _ (List.mem_of_getElem? (i := 27) rfl))) (by decide) (t := (.array .int)) (t' := .long) (by decide) (by decide)))
  have F70_contentCounts := F22_contentCounts.other W70 (Or.inr (slot_ne (Or.inr (hw _ (List.mem_of_getElem? (i := 23) rfl))) (Or.inr (hw _ (List.mem_of_getElem? (i := 27) rfl))) (by decide) (t := (.array .int)) (t' := .long) (by decide) (by decide)))
  have F70_inStructure := F22_inStructure.other W70 (Or.inr (slot_ne (Or.inr (hw _ (List.mem_of_getElem? (i := 25) rfl))) (Or.inr (hw _ (List.mem_of_getElem? (i := 27) rfl))) (by decide) (t := (.array .boolean)) (t' := .long) (by decide) (by decide)))
  have F70_collectionCount := F22_collectionCount.same W70
  have K70 : Keep h0 h70 [o1] := K22.wr W70 (Or.inl (List.mem_of_getElem? (i := 0) rfl))
  show own_Go p e below _ T70 (mkF m 73 #[.val (.ref o1), .val (.ref r1), .val (.ref t1), .val (.ref c1), .val (.ref s1), .val (.long ((0 : Int64) + ((0 : Int32).toInt64))), .second, .val (.ref c1), .val (.int (1 : Int32)), .val (.int (1 : Int32)), .val (.int (0 : Int32))] [])
  refine own_retV X70 hx hlk hret (hb hby din1_73) ?_ (by decide) (by decide)
  rw [e70]
  exact ⟨rfl, N70, K70, E70_o, F70_resources⟩
theorem dbz2_0 : decode jdk_65_method_59_code 0 = .ok (.iload_n 1, 1) := by decide +kernel
theorem dbz2_1 : decode jdk_65_method_59_code 1 = .ok (.istore 4, 2) := by decide +kernel
theorem dbz2_3 : decode jdk_65_method_59_code 3 = .ok (.iload_n 2, 1) := by decide +kernel
theorem dbz2_4 : decode jdk_65_method_59_code 4 = .ok (.iconst 1, 1) := by decide +kernel
theorem dbz2_5 : decode jdk_65_method_59_code 5 = .ok (.isub, 1) := by decide +kernel
theorem dbz2_6 : decode jdk_65_method_59_code 6 = .ok (.istore 5, 2) := by decide +kernel
theorem dbz2_8 : decode jdk_65_method_59_code 8 = .ok (.iload 4, 2) := by decide +kernel
theorem dbz2_10 : decode jdk_65_method_59_code 10 = .ok (.iload 5, 2) := by decide +kernel
theorem dbz2_12 : decode jdk_65_method_59_code 12 = .ok (.if_icmp .gt 54, 3) := by decide +kernel
theorem dbz2_15 : decode jdk_65_method_59_code 15 = .ok (.iload 4, 2) := by decide +kernel
theorem dbz2_17 : decode jdk_65_method_59_code 17 = .ok (.iload 5, 2) := by decide +kernel
theorem dbz2_19 : decode jdk_65_method_59_code 19 = .ok (.iadd, 1) := by decide +kernel
theorem dbz2_20 : decode jdk_65_method_59_code 20 = .ok (.iconst 1, 1) := by decide +kernel
theorem dbz2_21 : decode jdk_65_method_59_code 21 = .ok (.iushr, 1) := by decide +kernel
theorem dbz2_22 : decode jdk_65_method_59_code 22 = .ok (.istore 6, 2) := by decide +kernel
theorem dbz2_24 : decode jdk_65_method_59_code 24 = .ok (.aload_n 0, 1) := by decide +kernel
theorem dbz2_25 : decode jdk_65_method_59_code 25 = .ok (.iload 6, 2) := by decide +kernel
theorem dbz2_27 : decode jdk_65_method_59_code 27 = .ok (.iaload, 1) := by decide +kernel
theorem dbz2_28 : decode jdk_65_method_59_code 28 = .ok (.istore 7, 2) := by decide +kernel
theorem dbz2_30 : decode jdk_65_method_59_code 30 = .ok (.iload 7, 2) := by decide +kernel
theorem dbz2_32 : decode jdk_65_method_59_code 32 = .ok (.iload_n 3, 1) := by decide +kernel
theorem dbz2_33 : decode jdk_65_method_59_code 33 = .ok (.if_icmp .ge 12, 3) := by decide +kernel
theorem dbz2_36 : decode jdk_65_method_59_code 36 = .ok (.iload 6, 2) := by decide +kernel
theorem dbz2_38 : decode jdk_65_method_59_code 38 = .ok (.iconst 1, 1) := by decide +kernel
theorem dbz2_39 : decode jdk_65_method_59_code 39 = .ok (.iadd, 1) := by decide +kernel
theorem dbz2_40 : decode jdk_65_method_59_code 40 = .ok (.istore 4, 2) := by decide +kernel
theorem dbz2_42 : decode jdk_65_method_59_code 42 = .ok (.goto 21, 3) := by decide +kernel
theorem dbz2_45 : decode jdk_65_method_59_code 45 = .ok (.iload 7, 2) := by decide +kernel
theorem dbz2_47 : decode jdk_65_method_59_code 47 = .ok (.iload_n 3, 1) := by decide +kernel
theorem dbz2_48 : decode jdk_65_method_59_code 48 = .ok (.if_icmp .le 12, 3) := by decide +kernel
theorem dbz2_51 : decode jdk_65_method_59_code 51 = .ok (.iload 6, 2) := by decide +kernel
theorem dbz2_53 : decode jdk_65_method_59_code 53 = .ok (.iconst 1, 1) := by decide +kernel
theorem dbz2_54 : decode jdk_65_method_59_code 54 = .ok (.isub, 1) := by decide +kernel
theorem dbz2_55 : decode jdk_65_method_59_code 55 = .ok (.istore 5, 2) := by decide +kernel
theorem dbz2_57 : decode jdk_65_method_59_code 57 = .ok (.goto 6, 3) := by decide +kernel
theorem dbz2_60 : decode jdk_65_method_59_code 60 = .ok (.iload 6, 2) := by decide +kernel
theorem dbz2_62 : decode jdk_65_method_59_code 62 = .ok (.ireturn, 1) := by decide +kernel
theorem dbz2_63 : decode jdk_65_method_59_code 63 = .ok (.goto (-55), 3) := by decide +kernel
theorem dbz2_66 : decode jdk_65_method_59_code 66 = .ok (.iload 4, 2) := by decide +kernel
theorem dbz2_68 : decode jdk_65_method_59_code 68 = .ok (.iconst 1, 1) := by decide +kernel
theorem dbz2_69 : decode jdk_65_method_59_code 69 = .ok (.iadd, 1) := by decide +kernel
theorem dbz2_70 : decode jdk_65_method_59_code 70 = .ok (.ineg, 1) := by decide +kernel
theorem dbz2_71 : decode jdk_65_method_59_code 71 = .ok (.ireturn, 1) := by decide +kernel
theorem efbz2 (m : MethodId) (x0 : Addr) (x1 : Int32) (x2 : Int32) (x3 : Int32) : entryFrame m #[(.ref x0), (.int x1), (.int x2), (.int x3)] 8 = mkF m 0 #[.val (.ref x0), .val (.int x1), .val (.int x2), .val (.int x3), .unset, .unset, .unset, .unset] [] := by first | (simp [entryFrame, mkF, argsToLocals, Value.category]; done) | rfl
set_option maxRecDepth 65536 in
set_option maxHeartbeats 40000000 in
theorem rm_bsz2 (l : Launch) (Z : State) (a0 : Array Value) (hw : ∀ d ∈ tables_1, d.before a0 Z = true) (ws : List Jvm.Cond) (a1 : Addr) (kk : ClassId) (x0 : Int32) (x1 : Int32) (key : Int32) (h0 : Heap) (n0 : Nat) (Z0 : n0 ≤ h0.size) (V1 : Arv Z h0 a1 kk .int (2 : Int32) [(.int x0), (.int x1)] (.int (0 : Int32))) (h01 : x0 < x1) :
    own_Met l Z ws (⟨"java/util/Arrays", "binarySearch0", "([IIII)I"⟩ : MethodName) jdk_65_method_59_code 8 (some .int) ({ frames := 0, cells := 0, slots := 0, locals := 0 } : Room) #[(.ref a1), (.int (0 : Int32)), (.int (2 : Int32)), (.int key)] h0 (fun v h L => ∃ r : Int32, v = some (.int r) ∧ ((r = 0 ∧ key = x0) ∨ (r = 1 ∧ key = x1) ∨ (r < 0 ∧ ¬ key = x0 ∧ ¬ key = x1)) ∧ Fr n0 L ∧ h = h0) := by
  refine own_body (plainFor_of_name pn_0) ?_
  intro p e s m below meth c s₁ hx hby hml hret hlk hown hnm hZ X0 e0
  have hml : c.maxLocals = 8 := hml
  have hown : s.vm.findClass "java/util/Arrays" = some m.cls := hown
  have N0 := Fr.nil n0
  refine own_cast (efbz2 m a1 (0 : Int32) (2 : Int32) key) ?_
  show own_Go p e below _ s₁ (mkF m 0 #[.val (.ref a1), .val (.int (0 : Int32)), .val (.int (2 : Int32)), .val (.int key), .unset, .unset, .unset, .unset] [])
  refine own_st (fun t k => XS.iloadN X0.here hx rfl (hb hby dbz2_0) rfl  k) ?_
  show own_Go p e below _ s₁ (mkF m 1 #[.val (.ref a1), .val (.int (0 : Int32)), .val (.int (2 : Int32)), .val (.int key), .unset, .unset, .unset, .unset] [(.int (0 : Int32))])
  refine own_st (fun t k => XS.istore X0.here hx rfl (hb hby dbz2_1) rfl (l' := #[.val (.ref a1), .val (.int (0 : Int32)), .val (.int (2 : Int32)), .val (.int key), .val (.int (0 : Int32)), .unset, .unset, .unset]) rfl k) ?_
  show own_Go p e below _ s₁ (mkF m 3 #[.val (.ref a1), .val (.int (0 : Int32)), .val (.int (2 : Int32)), .val (.int key), .val (.int (0 : Int32)), .unset, .unset, .unset] [])
  refine own_st (fun t k => XS.iloadN X0.here hx rfl (hb hby dbz2_3) rfl  k) ?_
  show own_Go p e below _ s₁ (mkF m 4 #[.val (.ref a1), .val (.int (0 : Int32)), .val (.int (2 : Int32)), .val (.int key), .val (.int (0 : Int32)), .unset, .unset, .unset] [(.int (2 : Int32))])
  refine own_st (fun t k => XS.iconst X0.here hx rfl (hb hby dbz2_4) k) ?_
  show own_Go p e below _ s₁ (mkF m 5 #[.val (.ref a1), .val (.int (0 : Int32)), .val (.int (2 : Int32)), .val (.int key), .val (.int (0 : Int32)), .unset, .unset, .unset] [(.int (1 : Int32)), (.int (2 : Int32))])
  refine own_st (fun t k => XS.isub X0.here hx rfl (hb hby dbz2_5) rfl k) ?_
  show own_Go p e below _ s₁ (mkF m 6 #[.val (.ref a1), .val (.int (0 : Int32)), .val (.int (2 : Int32)), .val (.int key), .val (.int (0 : Int32)), .unset, .unset, .unset] [(.int ((2 : Int32) - (1 : Int32)))])
  show own_Go p e below _ s₁ (mkF m 6 #[.val (.ref a1), .val (.int (0 : Int32)), .val (.int (2 : Int32)), .val (.int key), .val (.int (0 : Int32)), .unset, .unset, .unset] [(.int (1 : Int32))])
  refine own_st (fun t k => XS.istore X0.here hx rfl (hb hby dbz2_6) rfl (l' := #[.val (.ref a1), .val (.int (0 : Int32)), .val (.int (2 : Int32)), .val (.int key), .val (.int (0 : Int32)), .val (.int (1 : Int32)), .unset, .unset]) rfl k) ?_
  show own_Go p e below _ s₁ (mkF m 8 #[.val (.ref a1), .val (.int (0 : Int32)), .val (.int (2 : Int32)), .val (.int key), .val (.int (0 : Int32)), .val (.int (1 : Int32)), .unset, .unset] [])
  refine own_st (fun t k => XS.iload X0.here hx rfl (hb hby dbz2_8) rfl  k) ?_
  show own_Go p e below _ s₁ (mkF m 10 #[.val (.ref a1), .val (.int (0 : Int32)), .val (.int (2 : Int32)), .val (.int key), .val (.int (0 : Int32)), .val (.int (1 : Int32)), .unset, .unset] [(.int (0 : Int32))])
  refine own_st (fun t k => XS.iload X0.here hx rfl (hb hby dbz2_10) rfl  k) ?_
  show own_Go p e below _ s₁ (mkF m 12 #[.val (.ref a1), .val (.int (0 : Int32)), .val (.int (2 : Int32)), .val (.int key), .val (.int (0 : Int32)), .val (.int (1 : Int32)), .unset, .unset] [(.int (1 : Int32)), (.int (0 : Int32))])
  refine own_st (fun t k => XS.icmpNo X0.here hx rfl (hb hby dbz2_12) rfl (flt (by decide : ¬ (1 : Int32) < (0 : Int32))).2.2.1 k) ?_
  show own_Go p e below _ s₁ (mkF m 15 #[.val (.ref a1), .val (.int (0 : Int32)), .val (.int (2 : Int32)), .val (.int key), .val (.int (0 : Int32)), .val (.int (1 : Int32)), .unset, .unset] [])
  refine own_st (fun t k => XS.iload X0.here hx rfl (hb hby dbz2_15) rfl  k) ?_
  show own_Go p e below _ s₁ (mkF m 17 #[.val (.ref a1), .val (.int (0 : Int32)), .val (.int (2 : Int32)), .val (.int key), .val (.int (0 : Int32)), .val (.int (1 : Int32)), .unset, .unset] [(.int (0 : Int32))])
  refine own_st (fun t k => XS.iload X0.here hx rfl (hb hby dbz2_17) rfl  k) ?_
  show own_Go p e below _ s₁ (mkF m 19 #[.val (.ref a1), .val (.int (0 : Int32)), .val (.int (2 : Int32)), .val (.int key), .val (.int (0 : Int32)), .val (.int (1 : Int32)), .unset, .unset] [(.int (1 : Int32)), (.int (0 : Int32))])
  refine own_st (fun t k => XS.iadd X0.here hx rfl (hb hby dbz2_19) rfl k) ?_
  show own_Go p e below _ s₁ (mkF m 20 #[.val (.ref a1), .val (.int (0 : Int32)), .val (.int (2 : Int32)), .val (.int key), .val (.int (0 : Int32)), .val (.int (1 : Int32)), .unset, .unset] [(.int ((0 : Int32) + (1 : Int32)))])
  refine own_st (fun t k => XS.iconst X0.here hx rfl (hb hby dbz2_20) k) ?_
  show own_Go p e below _ s₁ (mkF m 21 #[.val (.ref a1), .val (.int (0 : Int32)), .val (.int (2 : Int32)), .val (.int key), .val (.int (0 : Int32)), .val (.int (1 : Int32)), .unset, .unset] [(.int (1 : Int32)), (.int ((0 : Int32) + (1 : Int32)))])
  refine own_st (fun t k => XS.iushr X0.here hx rfl (hb hby dbz2_21) rfl k) ?_
  show own_Go p e below _ s₁ (mkF m 22 #[.val (.ref a1), .val (.int (0 : Int32)), .val (.int (2 : Int32)), .val (.int key), .val (.int (0 : Int32)), .val (.int (1 : Int32)), .unset, .unset] [(.int ((((0 : Int32) + (1 : Int32)).toUInt32 >>> ((1 : Int32) &&& 31).toUInt32).toInt32))])
  rw [(by decide : ((((0 : Int32) + (1 : Int32)).toUInt32 >>> ((1 : Int32) &&& 31).toUInt32).toInt32) = (0 : Int32))]
  show own_Go p e below _ s₁ (mkF m 22 #[.val (.ref a1), .val (.int (0 : Int32)), .val (.int (2 : Int32)), .val (.int key), .val (.int (0 : Int32)), .val (.int (1 : Int32)), .unset, .unset] [(.int (0 : Int32))])
  refine own_st (fun t k => XS.istore X0.here hx rfl (hb hby dbz2_22) rfl (l' := #[.val (.ref a1), .val (.int (0 : Int32)), .val (.int (2 : Int32)), .val (.int key), .val (.int (0 : Int32)), .val (.int (1 : Int32)), .val (.int (0 : Int32)), .unset]) rfl k) ?_
  show own_Go p e below _ s₁ (mkF m 24 #[.val (.ref a1), .val (.int (0 : Int32)), .val (.int (2 : Int32)), .val (.int key), .val (.int (0 : Int32)), .val (.int (1 : Int32)), .val (.int (0 : Int32)), .unset] [])
  refine own_st (fun t k => XS.aloadN X0.here hx rfl (hb hby dbz2_24) rfl rfl k) ?_
  show own_Go p e below _ s₁ (mkF m 25 #[.val (.ref a1), .val (.int (0 : Int32)), .val (.int (2 : Int32)), .val (.int key), .val (.int (0 : Int32)), .val (.int (1 : Int32)), .val (.int (0 : Int32)), .unset] [(.ref a1)])
  refine own_st (fun t k => XS.iload X0.here hx rfl (hb hby dbz2_25) rfl  k) ?_
  show own_Go p e below _ s₁ (mkF m 27 #[.val (.ref a1), .val (.int (0 : Int32)), .val (.int (2 : Int32)), .val (.int key), .val (.int (0 : Int32)), .val (.int (1 : Int32)), .val (.int (0 : Int32)), .unset] [(.int (0 : Int32)), (.ref a1)])
  obtain ⟨cli1, Ari1, -, Si1, Mi1, Hi1, Gi1⟩ := id V1
  have hini1 : ¬ ((0 : Int32) < 0 ∨ cli1.slots.size ≤ ((0 : Int32)).toNatClampNeg) := inb_of Si1 ⟨by decide, by decide⟩
  refine own_st (X0.iaload hx (j := (0 : Int32)) (v := (.int x0)) (by rw [e0]; exact Ari1.1) (State.isArrayOf_alike hZ.alike Ari1.2.1) Ari1.2.2 hini1 (Has.at Hi1 hini1 rfl) (g := (mkF m 27 #[.val (.ref a1), .val (.int (0 : Int32)), .val (.int (2 : Int32)), .val (.int key), .val (.int (0 : Int32)), .val (.int (1 : Int32)), .val (.int (0 : Int32)), .unset] [(.int (0 : Int32)), (.ref a1)])) rfl rfl (hb hby dbz2_27)) ?_
  show own_Go p e below _ s₁ (mkF m 28 #[.val (.ref a1), .val (.int (0 : Int32)), .val (.int (2 : Int32)), .val (.int key), .val (.int (0 : Int32)), .val (.int (1 : Int32)), .val (.int (0 : Int32)), .unset] [(.int x0)])
  refine own_st (fun t k => XS.istore X0.here hx rfl (hb hby dbz2_28) rfl (l' := #[.val (.ref a1), .val (.int (0 : Int32)), .val (.int (2 : Int32)), .val (.int key), .val (.int (0 : Int32)), .val (.int (1 : Int32)), .val (.int (0 : Int32)), .val (.int x0)]) rfl k) ?_
  show own_Go p e below _ s₁ (mkF m 30 #[.val (.ref a1), .val (.int (0 : Int32)), .val (.int (2 : Int32)), .val (.int key), .val (.int (0 : Int32)), .val (.int (1 : Int32)), .val (.int (0 : Int32)), .val (.int x0)] [])
  refine own_st (fun t k => XS.iload X0.here hx rfl (hb hby dbz2_30) rfl  k) ?_
  show own_Go p e below _ s₁ (mkF m 32 #[.val (.ref a1), .val (.int (0 : Int32)), .val (.int (2 : Int32)), .val (.int key), .val (.int (0 : Int32)), .val (.int (1 : Int32)), .val (.int (0 : Int32)), .val (.int x0)] [(.int x0)])
  refine own_st (fun t k => XS.iloadN X0.here hx rfl (hb hby dbz2_32) rfl  k) ?_
  show own_Go p e below _ s₁ (mkF m 33 #[.val (.ref a1), .val (.int (0 : Int32)), .val (.int (2 : Int32)), .val (.int key), .val (.int (0 : Int32)), .val (.int (1 : Int32)), .val (.int (0 : Int32)), .val (.int x0)] [(.int key), (.int x0)])
  by_cases u1 : x0 < key
  · refine own_st (fun t k => XS.icmpNo X0.here hx rfl (hb hby dbz2_33) rfl (tlt u1).2.1 k) ?_
    show own_Go p e below _ s₁ (mkF m 36 #[.val (.ref a1), .val (.int (0 : Int32)), .val (.int (2 : Int32)), .val (.int key), .val (.int (0 : Int32)), .val (.int (1 : Int32)), .val (.int (0 : Int32)), .val (.int x0)] [])
    refine own_st (fun t k => XS.iload X0.here hx rfl (hb hby dbz2_36) rfl  k) ?_
    show own_Go p e below _ s₁ (mkF m 38 #[.val (.ref a1), .val (.int (0 : Int32)), .val (.int (2 : Int32)), .val (.int key), .val (.int (0 : Int32)), .val (.int (1 : Int32)), .val (.int (0 : Int32)), .val (.int x0)] [(.int (0 : Int32))])
    refine own_st (fun t k => XS.iconst X0.here hx rfl (hb hby dbz2_38) k) ?_
    show own_Go p e below _ s₁ (mkF m 39 #[.val (.ref a1), .val (.int (0 : Int32)), .val (.int (2 : Int32)), .val (.int key), .val (.int (0 : Int32)), .val (.int (1 : Int32)), .val (.int (0 : Int32)), .val (.int x0)] [(.int (1 : Int32)), (.int (0 : Int32))])
    refine own_st (fun t k => XS.iadd X0.here hx rfl (hb hby dbz2_39) rfl k) ?_
    show own_Go p e below _ s₁ (mkF m 40 #[.val (.ref a1), .val (.int (0 : Int32)), .val (.int (2 : Int32)), .val (.int key), .val (.int (0 : Int32)), .val (.int (1 : Int32)), .val (.int (0 : Int32)), .val (.int x0)] [(.int ((0 : Int32) + (1 : Int32)))])
    show own_Go p e below _ s₁ (mkF m 40 #[.val (.ref a1), .val (.int (0 : Int32)), .val (.int (2 : Int32)), .val (.int key), .val (.int (0 : Int32)), .val (.int (1 : Int32)), .val (.int (0 : Int32)), .val (.int x0)] [(.int (1 : Int32))])
    refine own_st (fun t k => XS.istore X0.here hx rfl (hb hby dbz2_40) rfl (l' := #[.val (.ref a1), .val (.int (0 : Int32)), .val (.int (2 : Int32)), .val (.int key), .val (.int (1 : Int32)), .val (.int (1 : Int32)), .val (.int (0 : Int32)), .val (.int x0)]) rfl k) ?_
    show own_Go p e below _ s₁ (mkF m 42 #[.val (.ref a1), .val (.int (0 : Int32)), .val (.int (2 : Int32)), .val (.int key), .val (.int (1 : Int32)), .val (.int (1 : Int32)), .val (.int (0 : Int32)), .val (.int x0)] [])
    refine own_st (fun t k => XS.goto X0.here hx rfl (pc0 := 42) (pc' := 63) rfl (hb hby dbz2_42) (by decide) (by decide) k) ?_
    show own_Go p e below _ s₁ (mkF m 63 #[.val (.ref a1), .val (.int (0 : Int32)), .val (.int (2 : Int32)), .val (.int key), .val (.int (1 : Int32)), .val (.int (1 : Int32)), .val (.int (0 : Int32)), .val (.int x0)] [])
    refine own_st (fun t k => XS.goto X0.here hx rfl (pc0 := 63) (pc' := 8) rfl (hb hby dbz2_63) (by decide) (by decide) k) ?_
    show own_Go p e below _ s₁ (mkF m 8 #[.val (.ref a1), .val (.int (0 : Int32)), .val (.int (2 : Int32)), .val (.int key), .val (.int (1 : Int32)), .val (.int (1 : Int32)), .val (.int (0 : Int32)), .val (.int x0)] [])
    refine own_st (fun t k => XS.iload X0.here hx rfl (hb hby dbz2_8) rfl  k) ?_
    show own_Go p e below _ s₁ (mkF m 10 #[.val (.ref a1), .val (.int (0 : Int32)), .val (.int (2 : Int32)), .val (.int key), .val (.int (1 : Int32)), .val (.int (1 : Int32)), .val (.int (0 : Int32)), .val (.int x0)] [(.int (1 : Int32))])
    refine own_st (fun t k => XS.iload X0.here hx rfl (hb hby dbz2_10) rfl  k) ?_
    show own_Go p e below _ s₁ (mkF m 12 #[.val (.ref a1), .val (.int (0 : Int32)), .val (.int (2 : Int32)), .val (.int key), .val (.int (1 : Int32)), .val (.int (1 : Int32)), .val (.int (0 : Int32)), .val (.int x0)] [(.int (1 : Int32)), (.int (1 : Int32))])
    refine own_st (fun t k => XS.icmpNo X0.here hx rfl (hb hby dbz2_12) rfl (flt (by decide : ¬ (1 : Int32) < (1 : Int32))).2.2.1 k) ?_
    show own_Go p e below _ s₁ (mkF m 15 #[.val (.ref a1), .val (.int (0 : Int32)), .val (.int (2 : Int32)), .val (.int key), .val (.int (1 : Int32)), .val (.int (1 : Int32)), .val (.int (0 : Int32)), .val (.int x0)] [])
    refine own_st (fun t k => XS.iload X0.here hx rfl (hb hby dbz2_15) rfl  k) ?_
    show own_Go p e below _ s₁ (mkF m 17 #[.val (.ref a1), .val (.int (0 : Int32)), .val (.int (2 : Int32)), .val (.int key), .val (.int (1 : Int32)), .val (.int (1 : Int32)), .val (.int (0 : Int32)), .val (.int x0)] [(.int (1 : Int32))])
    refine own_st (fun t k => XS.iload X0.here hx rfl (hb hby dbz2_17) rfl  k) ?_
    show own_Go p e below _ s₁ (mkF m 19 #[.val (.ref a1), .val (.int (0 : Int32)), .val (.int (2 : Int32)), .val (.int key), .val (.int (1 : Int32)), .val (.int (1 : Int32)), .val (.int (0 : Int32)), .val (.int x0)] [(.int (1 : Int32)), (.int (1 : Int32))])
    refine own_st (fun t k => XS.iadd X0.here hx rfl (hb hby dbz2_19) rfl k) ?_
    show own_Go p e below _ s₁ (mkF m 20 #[.val (.ref a1), .val (.int (0 : Int32)), .val (.int (2 : Int32)), .val (.int key), .val (.int (1 : Int32)), .val (.int (1 : Int32)), .val (.int (0 : Int32)), .val (.int x0)] [(.int ((1 : Int32) + (1 : Int32)))])
    refine own_st (fun t k => XS.iconst X0.here hx rfl (hb hby dbz2_20) k) ?_
    show own_Go p e below _ s₁ (mkF m 21 #[.val (.ref a1), .val (.int (0 : Int32)), .val (.int (2 : Int32)), .val (.int key), .val (.int (1 : Int32)), .val (.int (1 : Int32)), .val (.int (0 : Int32)), .val (.int x0)] [(.int (1 : Int32)), (.int ((1 : Int32) + (1 : Int32)))])
    refine own_st (fun t k => XS.iushr X0.here hx rfl (hb hby dbz2_21) rfl k) ?_
    show own_Go p e below _ s₁ (mkF m 22 #[.val (.ref a1), .val (.int (0 : Int32)), .val (.int (2 : Int32)), .val (.int key), .val (.int (1 : Int32)), .val (.int (1 : Int32)), .val (.int (0 : Int32)), .val (.int x0)] [(.int ((((1 : Int32) + (1 : Int32)).toUInt32 >>> ((1 : Int32) &&& 31).toUInt32).toInt32))])
    rw [(by decide : ((((1 : Int32) + (1 : Int32)).toUInt32 >>> ((1 : Int32) &&& 31).toUInt32).toInt32) = (1 : Int32))]
    show own_Go p e below _ s₁ (mkF m 22 #[.val (.ref a1), .val (.int (0 : Int32)), .val (.int (2 : Int32)), .val (.int key), .val (.int (1 : Int32)), .val (.int (1 : Int32)), .val (.int (0 : Int32)), .val (.int x0)] [(.int (1 : Int32))])
    refine own_st (fun t k => XS.istore X0.here hx rfl (hb hby dbz2_22) rfl (l' := #[.val (.ref a1), .val (.int (0 : Int32)), .val (.int (2 : Int32)), .val (.int key), .val (.int (1 : Int32)), .val (.int (1 : Int32)), .val (.int (1 : Int32)), .val (.int x0)]) rfl k) ?_
    show own_Go p e below _ s₁ (mkF m 24 #[.val (.ref a1), .val (.int (0 : Int32)), .val (.int (2 : Int32)), .val (.int key), .val (.int (1 : Int32)), .val (.int (1 : Int32)), .val (.int (1 : Int32)), .val (.int x0)] [])
    refine own_st (fun t k => XS.aloadN X0.here hx rfl (hb hby dbz2_24) rfl rfl k) ?_
    show own_Go p e below _ s₁ (mkF m 25 #[.val (.ref a1), .val (.int (0 : Int32)), .val (.int (2 : Int32)), .val (.int key), .val (.int (1 : Int32)), .val (.int (1 : Int32)), .val (.int (1 : Int32)), .val (.int x0)] [(.ref a1)])
    refine own_st (fun t k => XS.iload X0.here hx rfl (hb hby dbz2_25) rfl  k) ?_
    show own_Go p e below _ s₁ (mkF m 27 #[.val (.ref a1), .val (.int (0 : Int32)), .val (.int (2 : Int32)), .val (.int key), .val (.int (1 : Int32)), .val (.int (1 : Int32)), .val (.int (1 : Int32)), .val (.int x0)] [(.int (1 : Int32)), (.ref a1)])
    obtain ⟨cli2, Ari2, -, Si2, Mi2, Hi2, Gi2⟩ := id V1
    have hini2 : ¬ ((1 : Int32) < 0 ∨ cli2.slots.size ≤ ((1 : Int32)).toNatClampNeg) := inb_of Si2 ⟨by decide, by decide⟩
    refine own_st (X0.iaload hx (j := (1 : Int32)) (v := (.int x1)) (by rw [e0]; exact Ari2.1) (State.isArrayOf_alike hZ.alike Ari2.2.1) Ari2.2.2 hini2 (Has.at Hi2 hini2 rfl) (g := (mkF m 27 #[.val (.ref a1), .val (.int (0 : Int32)), .val (.int (2 : Int32)), .val (.int key), .val (.int (1 : Int32)), .val (.int (1 : Int32)), .val (.int (1 : Int32)), .val (.int x0)] [(.int (1 : Int32)), (.ref a1)])) rfl rfl (hb hby dbz2_27)) ?_
    show own_Go p e below _ s₁ (mkF m 28 #[.val (.ref a1), .val (.int (0 : Int32)), .val (.int (2 : Int32)), .val (.int key), .val (.int (1 : Int32)), .val (.int (1 : Int32)), .val (.int (1 : Int32)), .val (.int x0)] [(.int x1)])
    refine own_st (fun t k => XS.istore X0.here hx rfl (hb hby dbz2_28) rfl (l' := #[.val (.ref a1), .val (.int (0 : Int32)), .val (.int (2 : Int32)), .val (.int key), .val (.int (1 : Int32)), .val (.int (1 : Int32)), .val (.int (1 : Int32)), .val (.int x1)]) rfl k) ?_
    show own_Go p e below _ s₁ (mkF m 30 #[.val (.ref a1), .val (.int (0 : Int32)), .val (.int (2 : Int32)), .val (.int key), .val (.int (1 : Int32)), .val (.int (1 : Int32)), .val (.int (1 : Int32)), .val (.int x1)] [])
    refine own_st (fun t k => XS.iload X0.here hx rfl (hb hby dbz2_30) rfl  k) ?_
    show own_Go p e below _ s₁ (mkF m 32 #[.val (.ref a1), .val (.int (0 : Int32)), .val (.int (2 : Int32)), .val (.int key), .val (.int (1 : Int32)), .val (.int (1 : Int32)), .val (.int (1 : Int32)), .val (.int x1)] [(.int x1)])
    refine own_st (fun t k => XS.iloadN X0.here hx rfl (hb hby dbz2_32) rfl  k) ?_
    show own_Go p e below _ s₁ (mkF m 33 #[.val (.ref a1), .val (.int (0 : Int32)), .val (.int (2 : Int32)), .val (.int key), .val (.int (1 : Int32)), .val (.int (1 : Int32)), .val (.int (1 : Int32)), .val (.int x1)] [(.int key), (.int x1)])
    by_cases u2 : x1 < key
    · refine own_st (fun t k => XS.icmpNo X0.here hx rfl (hb hby dbz2_33) rfl (tlt u2).2.1 k) ?_
      show own_Go p e below _ s₁ (mkF m 36 #[.val (.ref a1), .val (.int (0 : Int32)), .val (.int (2 : Int32)), .val (.int key), .val (.int (1 : Int32)), .val (.int (1 : Int32)), .val (.int (1 : Int32)), .val (.int x1)] [])
      refine own_st (fun t k => XS.iload X0.here hx rfl (hb hby dbz2_36) rfl  k) ?_
      show own_Go p e below _ s₁ (mkF m 38 #[.val (.ref a1), .val (.int (0 : Int32)), .val (.int (2 : Int32)), .val (.int key), .val (.int (1 : Int32)), .val (.int (1 : Int32)), .val (.int (1 : Int32)), .val (.int x1)] [(.int (1 : Int32))])
      refine own_st (fun t k => XS.iconst X0.here hx rfl (hb hby dbz2_38) k) ?_
      show own_Go p e below _ s₁ (mkF m 39 #[.val (.ref a1), .val (.int (0 : Int32)), .val (.int (2 : Int32)), .val (.int key), .val (.int (1 : Int32)), .val (.int (1 : Int32)), .val (.int (1 : Int32)), .val (.int x1)] [(.int (1 : Int32)), (.int (1 : Int32))])
      refine own_st (fun t k => XS.iadd X0.here hx rfl (hb hby dbz2_39) rfl k) ?_
      show own_Go p e below _ s₁ (mkF m 40 #[.val (.ref a1), .val (.int (0 : Int32)), .val (.int (2 : Int32)), .val (.int key), .val (.int (1 : Int32)), .val (.int (1 : Int32)), .val (.int (1 : Int32)), .val (.int x1)] [(.int ((1 : Int32) + (1 : Int32)))])
      show own_Go p e below _ s₁ (mkF m 40 #[.val (.ref a1), .val (.int (0 : Int32)), .val (.int (2 : Int32)), .val (.int key), .val (.int (1 : Int32)), .val (.int (1 : Int32)), .val (.int (1 : Int32)), .val (.int x1)] [(.int (2 : Int32))])
      refine own_st (fun t k => XS.istore X0.here hx rfl (hb hby dbz2_40) rfl (l' := #[.val (.ref a1), .val (.int (0 : Int32)), .val (.int (2 : Int32)), .val (.int key), .val (.int (2 : Int32)), .val (.int (1 : Int32)), .val (.int (1 : Int32)), .val (.int x1)]) rfl k) ?_
      show own_Go p e below _ s₁ (mkF m 42 #[.val (.ref a1), .val (.int (0 : Int32)), .val (.int (2 : Int32)), .val (.int key), .val (.int (2 : Int32)), .val (.int (1 : Int32)), .val (.int (1 : Int32)), .val (.int x1)] [])
      refine own_st (fun t k => XS.goto X0.here hx rfl (pc0 := 42) (pc' := 63) rfl (hb hby dbz2_42) (by decide) (by decide) k) ?_
      show own_Go p e below _ s₁ (mkF m 63 #[.val (.ref a1), .val (.int (0 : Int32)), .val (.int (2 : Int32)), .val (.int key), .val (.int (2 : Int32)), .val (.int (1 : Int32)), .val (.int (1 : Int32)), .val (.int x1)] [])
      refine own_st (fun t k => XS.goto X0.here hx rfl (pc0 := 63) (pc' := 8) rfl (hb hby dbz2_63) (by decide) (by decide) k) ?_
      show own_Go p e below _ s₁ (mkF m 8 #[.val (.ref a1), .val (.int (0 : Int32)), .val (.int (2 : Int32)), .val (.int key), .val (.int (2 : Int32)), .val (.int (1 : Int32)), .val (.int (1 : Int32)), .val (.int x1)] [])
      refine own_st (fun t k => XS.iload X0.here hx rfl (hb hby dbz2_8) rfl  k) ?_
      show own_Go p e below _ s₁ (mkF m 10 #[.val (.ref a1), .val (.int (0 : Int32)), .val (.int (2 : Int32)), .val (.int key), .val (.int (2 : Int32)), .val (.int (1 : Int32)), .val (.int (1 : Int32)), .val (.int x1)] [(.int (2 : Int32))])
      refine own_st (fun t k => XS.iload X0.here hx rfl (hb hby dbz2_10) rfl  k) ?_
      show own_Go p e below _ s₁ (mkF m 12 #[.val (.ref a1), .val (.int (0 : Int32)), .val (.int (2 : Int32)), .val (.int key), .val (.int (2 : Int32)), .val (.int (1 : Int32)), .val (.int (1 : Int32)), .val (.int x1)] [(.int (1 : Int32)), (.int (2 : Int32))])
      refine own_st (fun t k => XS.icmpYes X0.here hx rfl (pc0 := 12) (pc' := 66) rfl (hb hby dbz2_12) rfl (tlt (by decide : (1 : Int32) < (2 : Int32))).2.2.1 (by decide) (by decide) k) ?_
      show own_Go p e below _ s₁ (mkF m 66 #[.val (.ref a1), .val (.int (0 : Int32)), .val (.int (2 : Int32)), .val (.int key), .val (.int (2 : Int32)), .val (.int (1 : Int32)), .val (.int (1 : Int32)), .val (.int x1)] [])
      refine own_st (fun t k => XS.iload X0.here hx rfl (hb hby dbz2_66) rfl  k) ?_
      show own_Go p e below _ s₁ (mkF m 68 #[.val (.ref a1), .val (.int (0 : Int32)), .val (.int (2 : Int32)), .val (.int key), .val (.int (2 : Int32)), .val (.int (1 : Int32)), .val (.int (1 : Int32)), .val (.int x1)] [(.int (2 : Int32))])
      refine own_st (fun t k => XS.iconst X0.here hx rfl (hb hby dbz2_68) k) ?_
      show own_Go p e below _ s₁ (mkF m 69 #[.val (.ref a1), .val (.int (0 : Int32)), .val (.int (2 : Int32)), .val (.int key), .val (.int (2 : Int32)), .val (.int (1 : Int32)), .val (.int (1 : Int32)), .val (.int x1)] [(.int (1 : Int32)), (.int (2 : Int32))])
      refine own_st (fun t k => XS.iadd X0.here hx rfl (hb hby dbz2_69) rfl k) ?_
      show own_Go p e below _ s₁ (mkF m 70 #[.val (.ref a1), .val (.int (0 : Int32)), .val (.int (2 : Int32)), .val (.int key), .val (.int (2 : Int32)), .val (.int (1 : Int32)), .val (.int (1 : Int32)), .val (.int x1)] [(.int ((2 : Int32) + (1 : Int32)))])
      refine own_st (fun t k => XS.ineg X0.here hx rfl (hb hby dbz2_70) rfl k) ?_
      show own_Go p e below _ s₁ (mkF m 71 #[.val (.ref a1), .val (.int (0 : Int32)), .val (.int (2 : Int32)), .val (.int key), .val (.int (2 : Int32)), .val (.int (1 : Int32)), .val (.int (1 : Int32)), .val (.int x1)] [(.int (-((2 : Int32) + (1 : Int32))))])
      refine own_retI X0 hx hlk hret (hb hby dbz2_71) ?_ (by decide) (by decide)
      rw [e0]
      exact ⟨_, rfl, (Or.inr (Or.inr (⟨by decide, (by simp only [Int32.lt_iff_toInt_lt, ← Int32.toInt_inj] at u1 u2 h01 ⊢; omega), (by simp only [Int32.lt_iff_toInt_lt, ← Int32.toInt_inj] at u1 u2 h01 ⊢; omega)⟩))), N0, rfl⟩
    · refine own_st (fun t k => XS.icmpYes X0.here hx rfl (pc0 := 33) (pc' := 45) rfl (hb hby dbz2_33) rfl (flt u2).2.1 (by decide) (by decide) k) ?_
      show own_Go p e below _ s₁ (mkF m 45 #[.val (.ref a1), .val (.int (0 : Int32)), .val (.int (2 : Int32)), .val (.int key), .val (.int (1 : Int32)), .val (.int (1 : Int32)), .val (.int (1 : Int32)), .val (.int x1)] [])
      refine own_st (fun t k => XS.iload X0.here hx rfl (hb hby dbz2_45) rfl  k) ?_
      show own_Go p e below _ s₁ (mkF m 47 #[.val (.ref a1), .val (.int (0 : Int32)), .val (.int (2 : Int32)), .val (.int key), .val (.int (1 : Int32)), .val (.int (1 : Int32)), .val (.int (1 : Int32)), .val (.int x1)] [(.int x1)])
      refine own_st (fun t k => XS.iloadN X0.here hx rfl (hb hby dbz2_47) rfl  k) ?_
      show own_Go p e below _ s₁ (mkF m 48 #[.val (.ref a1), .val (.int (0 : Int32)), .val (.int (2 : Int32)), .val (.int key), .val (.int (1 : Int32)), .val (.int (1 : Int32)), .val (.int (1 : Int32)), .val (.int x1)] [(.int key), (.int x1)])
      by_cases v2 : key < x1
      · refine own_st (fun t k => XS.icmpNo X0.here hx rfl (hb hby dbz2_48) rfl (tlt v2).2.2.2 k) ?_
        show own_Go p e below _ s₁ (mkF m 51 #[.val (.ref a1), .val (.int (0 : Int32)), .val (.int (2 : Int32)), .val (.int key), .val (.int (1 : Int32)), .val (.int (1 : Int32)), .val (.int (1 : Int32)), .val (.int x1)] [])
        refine own_st (fun t k => XS.iload X0.here hx rfl (hb hby dbz2_51) rfl  k) ?_
        show own_Go p e below _ s₁ (mkF m 53 #[.val (.ref a1), .val (.int (0 : Int32)), .val (.int (2 : Int32)), .val (.int key), .val (.int (1 : Int32)), .val (.int (1 : Int32)), .val (.int (1 : Int32)), .val (.int x1)] [(.int (1 : Int32))])
        refine own_st (fun t k => XS.iconst X0.here hx rfl (hb hby dbz2_53) k) ?_
        show own_Go p e below _ s₁ (mkF m 54 #[.val (.ref a1), .val (.int (0 : Int32)), .val (.int (2 : Int32)), .val (.int key), .val (.int (1 : Int32)), .val (.int (1 : Int32)), .val (.int (1 : Int32)), .val (.int x1)] [(.int (1 : Int32)), (.int (1 : Int32))])
        refine own_st (fun t k => XS.isub X0.here hx rfl (hb hby dbz2_54) rfl k) ?_
        show own_Go p e below _ s₁ (mkF m 55 #[.val (.ref a1), .val (.int (0 : Int32)), .val (.int (2 : Int32)), .val (.int key), .val (.int (1 : Int32)), .val (.int (1 : Int32)), .val (.int (1 : Int32)), .val (.int x1)] [(.int ((1 : Int32) - (1 : Int32)))])
        show own_Go p e below _ s₁ (mkF m 55 #[.val (.ref a1), .val (.int (0 : Int32)), .val (.int (2 : Int32)), .val (.int key), .val (.int (1 : Int32)), .val (.int (1 : Int32)), .val (.int (1 : Int32)), .val (.int x1)] [(.int (0 : Int32))])
        refine own_st (fun t k => XS.istore X0.here hx rfl (hb hby dbz2_55) rfl (l' := #[.val (.ref a1), .val (.int (0 : Int32)), .val (.int (2 : Int32)), .val (.int key), .val (.int (1 : Int32)), .val (.int (0 : Int32)), .val (.int (1 : Int32)), .val (.int x1)]) rfl k) ?_
        show own_Go p e below _ s₁ (mkF m 57 #[.val (.ref a1), .val (.int (0 : Int32)), .val (.int (2 : Int32)), .val (.int key), .val (.int (1 : Int32)), .val (.int (0 : Int32)), .val (.int (1 : Int32)), .val (.int x1)] [])
        refine own_st (fun t k => XS.goto X0.here hx rfl (pc0 := 57) (pc' := 63) rfl (hb hby dbz2_57) (by decide) (by decide) k) ?_
        show own_Go p e below _ s₁ (mkF m 63 #[.val (.ref a1), .val (.int (0 : Int32)), .val (.int (2 : Int32)), .val (.int key), .val (.int (1 : Int32)), .val (.int (0 : Int32)), .val (.int (1 : Int32)), .val (.int x1)] [])
        refine own_st (fun t k => XS.goto X0.here hx rfl (pc0 := 63) (pc' := 8) rfl (hb hby dbz2_63) (by decide) (by decide) k) ?_
        show own_Go p e below _ s₁ (mkF m 8 #[.val (.ref a1), .val (.int (0 : Int32)), .val (.int (2 : Int32)), .val (.int key), .val (.int (1 : Int32)), .val (.int (0 : Int32)), .val (.int (1 : Int32)), .val (.int x1)] [])
        refine own_st (fun t k => XS.iload X0.here hx rfl (hb hby dbz2_8) rfl  k) ?_
        show own_Go p e below _ s₁ (mkF m 10 #[.val (.ref a1), .val (.int (0 : Int32)), .val (.int (2 : Int32)), .val (.int key), .val (.int (1 : Int32)), .val (.int (0 : Int32)), .val (.int (1 : Int32)), .val (.int x1)] [(.int (1 : Int32))])
        refine own_st (fun t k => XS.iload X0.here hx rfl (hb hby dbz2_10) rfl  k) ?_
        show own_Go p e below _ s₁ (mkF m 12 #[.val (.ref a1), .val (.int (0 : Int32)), .val (.int (2 : Int32)), .val (.int key), .val (.int (1 : Int32)), .val (.int (0 : Int32)), .val (.int (1 : Int32)), .val (.int x1)] [(.int (0 : Int32)), (.int (1 : Int32))])
        refine own_st (fun t k => XS.icmpYes X0.here hx rfl (pc0 := 12) (pc' := 66) rfl (hb hby dbz2_12) rfl (tlt (by decide : (0 : Int32) < (1 : Int32))).2.2.1 (by decide) (by decide) k) ?_
        show own_Go p e below _ s₁ (mkF m 66 #[.val (.ref a1), .val (.int (0 : Int32)), .val (.int (2 : Int32)), .val (.int key), .val (.int (1 : Int32)), .val (.int (0 : Int32)), .val (.int (1 : Int32)), .val (.int x1)] [])
        refine own_st (fun t k => XS.iload X0.here hx rfl (hb hby dbz2_66) rfl  k) ?_
        show own_Go p e below _ s₁ (mkF m 68 #[.val (.ref a1), .val (.int (0 : Int32)), .val (.int (2 : Int32)), .val (.int key), .val (.int (1 : Int32)), .val (.int (0 : Int32)), .val (.int (1 : Int32)), .val (.int x1)] [(.int (1 : Int32))])
        refine own_st (fun t k => XS.iconst X0.here hx rfl (hb hby dbz2_68) k) ?_
        show own_Go p e below _ s₁ (mkF m 69 #[.val (.ref a1), .val (.int (0 : Int32)), .val (.int (2 : Int32)), .val (.int key), .val (.int (1 : Int32)), .val (.int (0 : Int32)), .val (.int (1 : Int32)), .val (.int x1)] [(.int (1 : Int32)), (.int (1 : Int32))])
        refine own_st (fun t k => XS.iadd X0.here hx rfl (hb hby dbz2_69) rfl k) ?_
        show own_Go p e below _ s₁ (mkF m 70 #[.val (.ref a1), .val (.int (0 : Int32)), .val (.int (2 : Int32)), .val (.int key), .val (.int (1 : Int32)), .val (.int (0 : Int32)), .val (.int (1 : Int32)), .val (.int x1)] [(.int ((1 : Int32) + (1 : Int32)))])
        refine own_st (fun t k => XS.ineg X0.here hx rfl (hb hby dbz2_70) rfl k) ?_
        show own_Go p e below _ s₁ (mkF m 71 #[.val (.ref a1), .val (.int (0 : Int32)), .val (.int (2 : Int32)), .val (.int key), .val (.int (1 : Int32)), .val (.int (0 : Int32)), .val (.int (1 : Int32)), .val (.int x1)] [(.int (-((1 : Int32) + (1 : Int32))))])
        refine own_retI X0 hx hlk hret (hb hby dbz2_71) ?_ (by decide) (by decide)
        rw [e0]
        exact ⟨_, rfl, (Or.inr (Or.inr (⟨by decide, (by simp only [Int32.lt_iff_toInt_lt, ← Int32.toInt_inj] at u1 v2 h01 ⊢; omega), (by simp only [Int32.lt_iff_toInt_lt, ← Int32.toInt_inj] at u1 v2 h01 ⊢; omega)⟩))), N0, rfl⟩
      · refine own_st (fun t k => XS.icmpYes X0.here hx rfl (pc0 := 48) (pc' := 60) rfl (hb hby dbz2_48) rfl (flt v2).2.2.2 (by decide) (by decide) k) ?_
        show own_Go p e below _ s₁ (mkF m 60 #[.val (.ref a1), .val (.int (0 : Int32)), .val (.int (2 : Int32)), .val (.int key), .val (.int (1 : Int32)), .val (.int (1 : Int32)), .val (.int (1 : Int32)), .val (.int x1)] [])
        refine own_st (fun t k => XS.iload X0.here hx rfl (hb hby dbz2_60) rfl  k) ?_
        show own_Go p e below _ s₁ (mkF m 62 #[.val (.ref a1), .val (.int (0 : Int32)), .val (.int (2 : Int32)), .val (.int key), .val (.int (1 : Int32)), .val (.int (1 : Int32)), .val (.int (1 : Int32)), .val (.int x1)] [(.int (1 : Int32))])
        refine own_retI X0 hx hlk hret (hb hby dbz2_62) ?_ (by decide) (by decide)
        rw [e0]
        exact ⟨_, rfl, (Or.inr (Or.inl ⟨rfl, (by simp only [Int32.lt_iff_toInt_lt, ← Int32.toInt_inj] at u2 v2 ⊢; omega)⟩)), N0, rfl⟩
  · refine own_st (fun t k => XS.icmpYes X0.here hx rfl (pc0 := 33) (pc' := 45) rfl (hb hby dbz2_33) rfl (flt u1).2.1 (by decide) (by decide) k) ?_
    show own_Go p e below _ s₁ (mkF m 45 #[.val (.ref a1), .val (.int (0 : Int32)), .val (.int (2 : Int32)), .val (.int key), .val (.int (0 : Int32)), .val (.int (1 : Int32)), .val (.int (0 : Int32)), .val (.int x0)] [])
    refine own_st (fun t k => XS.iload X0.here hx rfl (hb hby dbz2_45) rfl  k) ?_
    show own_Go p e below _ s₁ (mkF m 47 #[.val (.ref a1), .val (.int (0 : Int32)), .val (.int (2 : Int32)), .val (.int key), .val (.int (0 : Int32)), .val (.int (1 : Int32)), .val (.int (0 : Int32)), .val (.int x0)] [(.int x0)])
    refine own_st (fun t k => XS.iloadN X0.here hx rfl (hb hby dbz2_47) rfl  k) ?_
    show own_Go p e below _ s₁ (mkF m 48 #[.val (.ref a1), .val (.int (0 : Int32)), .val (.int (2 : Int32)), .val (.int key), .val (.int (0 : Int32)), .val (.int (1 : Int32)), .val (.int (0 : Int32)), .val (.int x0)] [(.int key), (.int x0)])
    by_cases v1 : key < x0
    · refine own_st (fun t k => XS.icmpNo X0.here hx rfl (hb hby dbz2_48) rfl (tlt v1).2.2.2 k) ?_
      show own_Go p e below _ s₁ (mkF m 51 #[.val (.ref a1), .val (.int (0 : Int32)), .val (.int (2 : Int32)), .val (.int key), .val (.int (0 : Int32)), .val (.int (1 : Int32)), .val (.int (0 : Int32)), .val (.int x0)] [])
      refine own_st (fun t k => XS.iload X0.here hx rfl (hb hby dbz2_51) rfl  k) ?_
      show own_Go p e below _ s₁ (mkF m 53 #[.val (.ref a1), .val (.int (0 : Int32)), .val (.int (2 : Int32)), .val (.int key), .val (.int (0 : Int32)), .val (.int (1 : Int32)), .val (.int (0 : Int32)), .val (.int x0)] [(.int (0 : Int32))])
      refine own_st (fun t k => XS.iconst X0.here hx rfl (hb hby dbz2_53) k) ?_
      show own_Go p e below _ s₁ (mkF m 54 #[.val (.ref a1), .val (.int (0 : Int32)), .val (.int (2 : Int32)), .val (.int key), .val (.int (0 : Int32)), .val (.int (1 : Int32)), .val (.int (0 : Int32)), .val (.int x0)] [(.int (1 : Int32)), (.int (0 : Int32))])
      refine own_st (fun t k => XS.isub X0.here hx rfl (hb hby dbz2_54) rfl k) ?_
      show own_Go p e below _ s₁ (mkF m 55 #[.val (.ref a1), .val (.int (0 : Int32)), .val (.int (2 : Int32)), .val (.int key), .val (.int (0 : Int32)), .val (.int (1 : Int32)), .val (.int (0 : Int32)), .val (.int x0)] [(.int ((0 : Int32) - (1 : Int32)))])
      show own_Go p e below _ s₁ (mkF m 55 #[.val (.ref a1), .val (.int (0 : Int32)), .val (.int (2 : Int32)), .val (.int key), .val (.int (0 : Int32)), .val (.int (1 : Int32)), .val (.int (0 : Int32)), .val (.int x0)] [(.int (-1 : Int32))])
      refine own_st (fun t k => XS.istore X0.here hx rfl (hb hby dbz2_55) rfl (l' := #[.val (.ref a1), .val (.int (0 : Int32)), .val (.int (2 : Int32)), .val (.int key), .val (.int (0 : Int32)), .val (.int (-1 : Int32)), .val (.int (0 : Int32)), .val (.int x0)]) rfl k) ?_
      show own_Go p e below _ s₁ (mkF m 57 #[.val (.ref a1), .val (.int (0 : Int32)), .val (.int (2 : Int32)), .val (.int key), .val (.int (0 : Int32)), .val (.int (-1 : Int32)), .val (.int (0 : Int32)), .val (.int x0)] [])
      refine own_st (fun t k => XS.goto X0.here hx rfl (pc0 := 57) (pc' := 63) rfl (hb hby dbz2_57) (by decide) (by decide) k) ?_
      show own_Go p e below _ s₁ (mkF m 63 #[.val (.ref a1), .val (.int (0 : Int32)), .val (.int (2 : Int32)), .val (.int key), .val (.int (0 : Int32)), .val (.int (-1 : Int32)), .val (.int (0 : Int32)), .val (.int x0)] [])
      refine own_st (fun t k => XS.goto X0.here hx rfl (pc0 := 63) (pc' := 8) rfl (hb hby dbz2_63) (by decide) (by decide) k) ?_
      show own_Go p e below _ s₁ (mkF m 8 #[.val (.ref a1), .val (.int (0 : Int32)), .val (.int (2 : Int32)), .val (.int key), .val (.int (0 : Int32)), .val (.int (-1 : Int32)), .val (.int (0 : Int32)), .val (.int x0)] [])
      refine own_st (fun t k => XS.iload X0.here hx rfl (hb hby dbz2_8) rfl  k) ?_
      show own_Go p e below _ s₁ (mkF m 10 #[.val (.ref a1), .val (.int (0 : Int32)), .val (.int (2 : Int32)), .val (.int key), .val (.int (0 : Int32)), .val (.int (-1 : Int32)), .val (.int (0 : Int32)), .val (.int x0)] [(.int (0 : Int32))])
      refine own_st (fun t k => XS.iload X0.here hx rfl (hb hby dbz2_10) rfl  k) ?_
      show own_Go p e below _ s₁ (mkF m 12 #[.val (.ref a1), .val (.int (0 : Int32)), .val (.int (2 : Int32)), .val (.int key), .val (.int (0 : Int32)), .val (.int (-1 : Int32)), .val (.int (0 : Int32)), .val (.int x0)] [(.int (-1 : Int32)), (.int (0 : Int32))])
      refine own_st (fun t k => XS.icmpYes X0.here hx rfl (pc0 := 12) (pc' := 66) rfl (hb hby dbz2_12) rfl (tlt (by decide : (-1 : Int32) < (0 : Int32))).2.2.1 (by decide) (by decide) k) ?_
      show own_Go p e below _ s₁ (mkF m 66 #[.val (.ref a1), .val (.int (0 : Int32)), .val (.int (2 : Int32)), .val (.int key), .val (.int (0 : Int32)), .val (.int (-1 : Int32)), .val (.int (0 : Int32)), .val (.int x0)] [])
      refine own_st (fun t k => XS.iload X0.here hx rfl (hb hby dbz2_66) rfl  k) ?_
      show own_Go p e below _ s₁ (mkF m 68 #[.val (.ref a1), .val (.int (0 : Int32)), .val (.int (2 : Int32)), .val (.int key), .val (.int (0 : Int32)), .val (.int (-1 : Int32)), .val (.int (0 : Int32)), .val (.int x0)] [(.int (0 : Int32))])
      refine own_st (fun t k => XS.iconst X0.here hx rfl (hb hby dbz2_68) k) ?_
      show own_Go p e below _ s₁ (mkF m 69 #[.val (.ref a1), .val (.int (0 : Int32)), .val (.int (2 : Int32)), .val (.int key), .val (.int (0 : Int32)), .val (.int (-1 : Int32)), .val (.int (0 : Int32)), .val (.int x0)] [(.int (1 : Int32)), (.int (0 : Int32))])
      refine own_st (fun t k => XS.iadd X0.here hx rfl (hb hby dbz2_69) rfl k) ?_
      show own_Go p e below _ s₁ (mkF m 70 #[.val (.ref a1), .val (.int (0 : Int32)), .val (.int (2 : Int32)), .val (.int key), .val (.int (0 : Int32)), .val (.int (-1 : Int32)), .val (.int (0 : Int32)), .val (.int x0)] [(.int ((0 : Int32) + (1 : Int32)))])
      refine own_st (fun t k => XS.ineg X0.here hx rfl (hb hby dbz2_70) rfl k) ?_
      show own_Go p e below _ s₁ (mkF m 71 #[.val (.ref a1), .val (.int (0 : Int32)), .val (.int (2 : Int32)), .val (.int key), .val (.int (0 : Int32)), .val (.int (-1 : Int32)), .val (.int (0 : Int32)), .val (.int x0)] [(.int (-((0 : Int32) + (1 : Int32))))])
      refine own_retI X0 hx hlk hret (hb hby dbz2_71) ?_ (by decide) (by decide)
      rw [e0]
      exact ⟨_, rfl, (Or.inr (Or.inr (⟨by decide, (by simp only [Int32.lt_iff_toInt_lt, ← Int32.toInt_inj] at v1 h01 ⊢; omega), (by simp only [Int32.lt_iff_toInt_lt, ← Int32.toInt_inj] at v1 h01 ⊢; omega)⟩))), N0, rfl⟩
    · refine own_st (fun t k => XS.icmpYes X0.here hx rfl (pc0 := 48) (pc' := 60) rfl (hb hby dbz2_48) rfl (flt v1).2.2.2 (by decide) (by decide) k) ?_
      show own_Go p e below _ s₁ (mkF m 60 #[.val (.ref a1), .val (.int (0 : Int32)), .val (.int (2 : Int32)), .val (.int key), .val (.int (0 : Int32)), .val (.int (1 : Int32)), .val (.int (0 : Int32)), .val (.int x0)] [])
      refine own_st (fun t k => XS.iload X0.here hx rfl (hb hby dbz2_60) rfl  k) ?_
      show own_Go p e below _ s₁ (mkF m 62 #[.val (.ref a1), .val (.int (0 : Int32)), .val (.int (2 : Int32)), .val (.int key), .val (.int (0 : Int32)), .val (.int (1 : Int32)), .val (.int (0 : Int32)), .val (.int x0)] [(.int (0 : Int32))])
      refine own_retI X0 hx hlk hret (hb hby dbz2_62) ?_ (by decide) (by decide)
      rw [e0]
      exact ⟨_, rfl, (Or.inl ⟨rfl, (by simp only [Int32.lt_iff_toInt_lt, ← Int32.toInt_inj] at u1 v1 ⊢; omega)⟩), N0, rfl⟩
theorem dbs2_0 : decode jdk_65_method_57_code 0 = .ok (.aload_n 0, 1) := by decide +kernel
theorem dbs2_1 : decode jdk_65_method_57_code 1 = .ok (.iconst 0, 1) := by decide +kernel
theorem dbs2_2 : decode jdk_65_method_57_code 2 = .ok (.aload_n 0, 1) := by decide +kernel
theorem dbs2_3 : decode jdk_65_method_57_code 3 = .ok (.arraylength, 1) := by decide +kernel
theorem dbs2_4 : decode jdk_65_method_57_code 4 = .ok (.iload_n 1, 1) := by decide +kernel
theorem dbs2_5 : decode jdk_65_method_57_code 5 = .ok (.invokestatic 209, 3) := by decide +kernel
theorem dbs2_8 : decode jdk_65_method_57_code 8 = .ok (.ireturn, 1) := by decide +kernel
theorem efbs2 (m : MethodId) (x0 : Addr) (x1 : Int32) : entryFrame m #[(.ref x0), (.int x1)] 2 = mkF m 0 #[.val (.ref x0), .val (.int x1)] [] := by first | (simp [entryFrame, mkF, argsToLocals, Value.category]; done) | rfl
set_option maxRecDepth 65536 in
set_option maxHeartbeats 40000000 in
theorem rm_bs2 (l : Launch) (Z : State) (a0 : Array Value) (hw : ∀ d ∈ tables_1, d.before a0 Z = true) (ws : List Jvm.Cond) (a1 : Addr) (kk : ClassId) (x0 : Int32) (x1 : Int32) (key : Int32) (h0 : Heap) (n0 : Nat) (Z0 : n0 ≤ h0.size) (V1 : Arv Z h0 a1 kk .int (2 : Int32) [(.int x0), (.int x1)] (.int (0 : Int32))) (h01 : x0 < x1) :
    own_Met l Z ws (⟨"java/util/Arrays", "binarySearch", "([II)I"⟩ : MethodName) jdk_65_method_57_code 2 (some .int) ({ frames := 1, cells := 0, slots := 0, locals := 20 } : Room) #[(.ref a1), (.int key)] h0 (fun v h L => ∃ r : Int32, v = some (.int r) ∧ ((r = 0 ∧ key = x0) ∨ (r = 1 ∧ key = x1) ∨ (r < 0 ∧ ¬ key = x0 ∧ ¬ key = x1)) ∧ Fr n0 L ∧ h = h0) := by
  refine own_body (plainFor_of_name pn_0) ?_
  intro p e s m below meth c s₁ hx hby hml hret hlk hown hnm hZ X0 e0
  have hml : c.maxLocals = 2 := hml
  have hown : s.vm.findClass "java/util/Arrays" = some m.cls := hown
  have N0 := Fr.nil n0
  refine own_cast (efbs2 m a1 key) ?_
  show own_Go p e below _ s₁ (mkF m 0 #[.val (.ref a1), .val (.int key)] [])
  refine own_st (fun t k => XS.aloadN X0.here hx rfl (hb hby dbs2_0) rfl rfl k) ?_
  show own_Go p e below _ s₁ (mkF m 1 #[.val (.ref a1), .val (.int key)] [(.ref a1)])
  refine own_st (fun t k => XS.iconst X0.here hx rfl (hb hby dbs2_1) k) ?_
  show own_Go p e below _ s₁ (mkF m 2 #[.val (.ref a1), .val (.int key)] [(.int (0 : Int32)), (.ref a1)])
  refine own_st (fun t k => XS.aloadN X0.here hx rfl (hb hby dbs2_2) rfl rfl k) ?_
  show own_Go p e below _ s₁ (mkF m 3 #[.val (.ref a1), .val (.int key)] [(.ref a1), (.int (0 : Int32)), (.ref a1)])
  obtain ⟨cl3, Ar3, -, S3, M3, -, -⟩ := id V1
  refine own_st (X0.arraylength hx (by rw [e0]; exact Ar3.1) (State.isArrayOf_alike hZ.alike Ar3.2.1) (g := (mkF m 3 #[.val (.ref a1), .val (.int key)] [(.ref a1), (.int (0 : Int32)), (.ref a1)])) rfl rfl (hb hby dbs2_3)) ?_
  rw [len_of S3 M3]
  show own_Go p e below _ s₁ (mkF m 4 #[.val (.ref a1), .val (.int key)] [(.int (2 : Int32)), (.int (0 : Int32)), (.ref a1)])
  refine own_st (fun t k => XS.iloadN X0.here hx rfl (hb hby dbs2_4) rfl  k) ?_
  show own_Go p e below _ s₁ (mkF m 5 #[.val (.ref a1), .val (.int key)] [(.int key), (.int (2 : Int32)), (.int (0 : Int32)), (.ref a1)])
  refine own_callS X0 hx hZ (y := (⟨"java/util/Arrays", "binarySearch0", "([IIII)I"⟩ : MethodName)) (W := 0) (kc := 0) (ks := 0) hown (hw _ (List.mem_of_getElem? (i := 37) rfl)) (hw _ (List.mem_of_getElem? (i := 38) rfl)) (hw _ (List.mem_of_getElem? (i := 35) rfl)) (hw _ (List.mem_of_getElem? (i := 39) rfl)) (own_back (W := 0) (rm_bsz2 l Z a0 hw [] a1 kk x0 x1 key h0 n0 Z0 V1 h01) hZ (hw _ (List.mem_of_getElem? (i := 39) rfl)) (hw _ (List.mem_of_getElem? (i := 35) rfl)) (by decide) (by decide)) (by decide) (g := (mkF m 5 #[.val (.ref a1), .val (.int key)] [(.int key), (.int (2 : Int32)), (.int (0 : Int32)), (.ref a1)])) rfl (by rw [hml]; rfl) (argsL := [(.ref a1), (.int (0 : Int32)), (.int (2 : Int32)), (.int key)]) (rest := []) (lenOf pd_0 rfl) rfl (by show 2 * 0 + _ ≤ _; exact Nat.le_of_eq rfl) (hb hby dbs2_5) rfl e0 (by decide) (by decide) (fun v5 T5 L5 X5 hQ5 => ?_)
  obtain ⟨r, rfl, hr, M5, e5⟩ := hQ5
  show own_Go p e below _ T5 (mkF m 8 #[.val (.ref a1), .val (.int key)] [(.int r)])
  refine own_retI X5 hx hlk hret (hb hby dbs2_8) ?_ (by decide) (by decide)
  rw [e5]
  exact ⟨_, rfl, hr, Fr.app N0 M5, rfl⟩
theorem dix2_0 : decode prog_44_method_8_code 0 = .ok (.aload_n 0, 1) := by decide +kernel
theorem dix2_1 : decode prog_44_method_8_code 1 = .ok (.getfield 7, 3) := by decide +kernel
theorem dix2_4 : decode prog_44_method_8_code 4 = .ok (.iload_n 1, 1) := by decide +kernel
theorem dix2_5 : decode prog_44_method_8_code 5 = .ok (.invokestatic 27, 3) := by decide +kernel
theorem dix2_8 : decode prog_44_method_8_code 8 = .ok (.istore_n 2, 1) := by decide +kernel
theorem dix2_9 : decode prog_44_method_8_code 9 = .ok (.iload_n 2, 1) := by decide +kernel
theorem dix2_10 : decode prog_44_method_8_code 10 = .ok (.ifCond .ge 7, 3) := by decide +kernel
theorem dix2_13 : decode prog_44_method_8_code 13 = .ok (.iconst (-1), 1) := by decide +kernel
theorem dix2_14 : decode prog_44_method_8_code 14 = .ok (.goto 4, 3) := by decide +kernel
theorem dix2_17 : decode prog_44_method_8_code 17 = .ok (.iload_n 2, 1) := by decide +kernel
theorem dix2_18 : decode prog_44_method_8_code 18 = .ok (.ireturn, 1) := by decide +kernel
theorem efix2 (m : MethodId) (x0 : Addr) (x1 : Int32) : entryFrame m #[(.ref x0), (.int x1)] 3 = mkF m 0 #[.val (.ref x0), .val (.int x1), .unset] [] := by first | (simp [entryFrame, mkF, argsToLocals, Value.category]; done) | rfl
set_option maxRecDepth 65536 in
set_option maxHeartbeats 40000000 in
theorem rm_ix2 (l : Launch) (Z : State) (a0 : Array Value) (hw : ∀ d ∈ tables_1, d.before a0 Z = true) (ws : List Jvm.Cond) (o1 : Addr) (a1 : Addr) (kk : ClassId) (x0 : Int32) (x1 : Int32) (key : Int32) (h0 : Heap) (n0 : Nat) (Z0 : n0 ≤ h0.size) (F1 : Fld Z h0 o1 "com/example/rank3/rank3/text/Postings" "resources" "[I" (.ref a1)) (V1 : Arv Z h0 a1 kk .int (2 : Int32) [(.int x0), (.int x1)] (.int (0 : Int32))) (h01 : x0 < x1) :
    own_Met l Z ws (⟨"com/example/rank3/rank3/text/Postings", "indexOf", "(I)I"⟩ : MethodName) prog_44_method_8_code 3 (some .int) ({ frames := 2, cells := 0, slots := 0, locals := 40 } : Room) #[(.ref o1), (.int key)] h0 (fun v h L => ∃ r : Int32, v = some (.int r) ∧ ((r = 0 ∧ key = x0) ∨ (r = 1 ∧ key = x1) ∨ (r = -1 ∧ ¬ key = x0 ∧ ¬ key = x1)) ∧ Fr n0 L ∧ h = h0) := by
  refine own_body (plainFor_of_name pn_1) ?_
  intro p e s m below meth c s₁ hx hby hml hret hlk hown hnm hZ X0 e0
  have hml : c.maxLocals = 3 := hml
  have hown : s.vm.findClass "com/example/rank3/rank3/text/Postings" = some m.cls := hown
  have N0 := Fr.nil n0
  refine own_cast (efix2 m o1 key) ?_
  show own_Go p e below _ s₁ (mkF m 0 #[.val (.ref o1), .val (.int key), .unset] [])
  refine own_st (fun t k => XS.aloadN X0.here hx rfl (hb hby dix2_0) rfl rfl k) ?_
  show own_Go p e below _ s₁ (mkF m 1 #[.val (.ref o1), .val (.int key), .unset] [(.ref o1)])
  obtain ⟨T1, X1, e1, st1⟩ := getF X0 hx hZ hown (host := "") (Or.inl (hw _ (List.mem_of_getElem? (i := 18) rfl))) Via.refl e0 F1 (g := (mkF m 1 #[.val (.ref o1), .val (.int key), .unset] [(.ref o1)])) rfl rfl (hb hby dix2_1)
  refine own_st st1 ?_
  show own_Go p e below _ T1 (mkF m 4 #[.val (.ref o1), .val (.int key), .unset] [(.ref a1)])
  refine own_st (fun t k => XS.iloadN X1.here hx rfl (hb hby dix2_4) rfl  k) ?_
  show own_Go p e below _ T1 (mkF m 5 #[.val (.ref o1), .val (.int key), .unset] [(.int key), (.ref a1)])
  refine own_callS X1 hx hZ (y := (⟨"java/util/Arrays", "binarySearch", "([II)I"⟩ : MethodName)) (W := 0) (kc := 0) (ks := 0) hown (hw _ (List.mem_of_getElem? (i := 33) rfl)) (hw _ (List.mem_of_getElem? (i := 34) rfl)) (hw _ (List.mem_of_getElem? (i := 35) rfl)) (hw _ (List.mem_of_getElem? (i := 36) rfl)) (own_back (W := 0) (rm_bs2 l Z a0 hw [] a1 kk x0 x1 key h0 n0 Z0 V1 h01) hZ (hw _ (List.mem_of_getElem? (i := 36) rfl)) (hw _ (List.mem_of_getElem? (i := 35) rfl)) (by decide) (by decide)) (by decide) (g := (mkF m 5 #[.val (.ref o1), .val (.int key), .unset] [(.int key), (.ref a1)])) rfl (by rw [hml]; rfl) (argsL := [(.ref a1), (.int key)]) (rest := []) (lenOf pd_1 rfl) rfl (by show 2 * 0 + _ ≤ _; exact Nat.le_of_eq rfl) (hb hby dix2_5) rfl e1 (by decide) (by decide) (fun v5 T5 L5 X5 hQ5 => ?_)
  obtain ⟨r, rfl, hr, M5, e5⟩ := hQ5
  show own_Go p e below _ T5 (mkF m 8 #[.val (.ref o1), .val (.int key), .unset] [(.int r)])
  refine own_st (fun t k => XS.istoreN X5.here hx rfl (hb hby dix2_8) rfl (l' := #[.val (.ref o1), .val (.int key), .val (.int r)]) rfl k) ?_
  show own_Go p e below _ T5 (mkF m 9 #[.val (.ref o1), .val (.int key), .val (.int r)] [])
  refine own_st (fun t k => XS.iloadN X5.here hx rfl (hb hby dix2_9) rfl  k) ?_
  show own_Go p e below _ T5 (mkF m 10 #[.val (.ref o1), .val (.int key), .val (.int r)] [(.int r)])
  rcases hr with ⟨hr, hk⟩ | ⟨hr, hk⟩ | ⟨hr, hk⟩
  · subst hr
    show own_Go p e below _ T5 (mkF m 10 #[.val (.ref o1), .val (.int key), .val (.int (0 : Int32))] [(.int (0 : Int32))])
    refine own_st (fun t k => XS.ifYes X5.here hx rfl (pc0 := 10) (pc' := 17) rfl (hb hby dix2_10) rfl ((if0 _ _).trans (flt (by decide : ¬ (0 : Int32) < 0)).2.1) (by decide) (by decide) k) ?_
    show own_Go p e below _ T5 (mkF m 17 #[.val (.ref o1), .val (.int key), .val (.int (0 : Int32))] [])
    refine own_st (fun t k => XS.iloadN X5.here hx rfl (hb hby dix2_17) rfl  k) ?_
    show own_Go p e below _ T5 (mkF m 18 #[.val (.ref o1), .val (.int key), .val (.int (0 : Int32))] [(.int (0 : Int32))])
    refine own_retI X5 hx hlk hret (hb hby dix2_18) ?_ (by decide) (by decide)
    rw [e5]
    exact ⟨_, rfl, (Or.inl ⟨rfl, hk⟩), Fr.app N0 M5, rfl⟩
  · subst hr
    show own_Go p e below _ T5 (mkF m 10 #[.val (.ref o1), .val (.int key), .val (.int (1 : Int32))] [(.int (1 : Int32))])
    refine own_st (fun t k => XS.ifYes X5.here hx rfl (pc0 := 10) (pc' := 17) rfl (hb hby dix2_10) rfl ((if0 _ _).trans (flt (by decide : ¬ (1 : Int32) < 0)).2.1) (by decide) (by decide) k) ?_
    show own_Go p e below _ T5 (mkF m 17 #[.val (.ref o1), .val (.int key), .val (.int (1 : Int32))] [])
    refine own_st (fun t k => XS.iloadN X5.here hx rfl (hb hby dix2_17) rfl  k) ?_
    show own_Go p e below _ T5 (mkF m 18 #[.val (.ref o1), .val (.int key), .val (.int (1 : Int32))] [(.int (1 : Int32))])
    refine own_retI X5 hx hlk hret (hb hby dix2_18) ?_ (by decide) (by decide)
    rw [e5]
    exact ⟨_, rfl, (Or.inr (Or.inl ⟨rfl, hk⟩)), Fr.app N0 M5, rfl⟩
  · refine own_st (fun t k => XS.ifNo X5.here hx rfl (hb hby dix2_10) rfl ((if0 _ _).trans (tlt hr).2.1) k) ?_
    show own_Go p e below _ T5 (mkF m 13 #[.val (.ref o1), .val (.int key), .val (.int r)] [])
    refine own_st (fun t k => XS.iconst X5.here hx rfl (hb hby dix2_13) k) ?_
    show own_Go p e below _ T5 (mkF m 14 #[.val (.ref o1), .val (.int key), .val (.int r)] [(.int (-1 : Int32))])
    refine own_st (fun t k => XS.goto X5.here hx rfl (pc0 := 14) (pc' := 18) rfl (hb hby dix2_14) (by decide) (by decide) k) ?_
    show own_Go p e below _ T5 (mkF m 18 #[.val (.ref o1), .val (.int key), .val (.int r)] [(.int (-1 : Int32))])
    refine own_retI X5 hx hlk hret (hb hby dix2_18) ?_ (by decide) (by decide)
    rw [e5]
    exact ⟨_, rfl, (Or.inr (Or.inr (⟨rfl, hk⟩))), Fr.app N0 M5, rfl⟩
theorem din2_0 : decode prog_44_method_1_code 0 = .ok (.aload_n 0, 1) := by decide +kernel
theorem din2_1 : decode prog_44_method_1_code 1 = .ok (.invokespecial 1, 3) := by decide +kernel
theorem din2_4 : decode prog_44_method_1_code 4 = .ok (.aload_n 0, 1) := by decide +kernel
theorem din2_5 : decode prog_44_method_1_code 5 = .ok (.aload_n 1, 1) := by decide +kernel
theorem din2_6 : decode prog_44_method_1_code 6 = .ok (.putfield 7, 3) := by decide +kernel
theorem din2_9 : decode prog_44_method_1_code 9 = .ok (.aload_n 0, 1) := by decide +kernel
theorem din2_10 : decode prog_44_method_1_code 10 = .ok (.aload_n 2, 1) := by decide +kernel
theorem din2_11 : decode prog_44_method_1_code 11 = .ok (.putfield 13, 3) := by decide +kernel
theorem din2_14 : decode prog_44_method_1_code 14 = .ok (.aload_n 0, 1) := by decide +kernel
theorem din2_15 : decode prog_44_method_1_code 15 = .ok (.aload_n 3, 1) := by decide +kernel
theorem din2_16 : decode prog_44_method_1_code 16 = .ok (.putfield 16, 3) := by decide +kernel
theorem din2_19 : decode prog_44_method_1_code 19 = .ok (.aload_n 0, 1) := by decide +kernel
theorem din2_20 : decode prog_44_method_1_code 20 = .ok (.aload 4, 2) := by decide +kernel
theorem din2_22 : decode prog_44_method_1_code 22 = .ok (.putfield 19, 3) := by decide +kernel
theorem din2_25 : decode prog_44_method_1_code 25 = .ok (.lconst 0, 1) := by decide +kernel
theorem din2_26 : decode prog_44_method_1_code 26 = .ok (.lstore 5, 2) := by decide +kernel
theorem din2_28 : decode prog_44_method_1_code 28 = .ok (.aload_n 3, 1) := by decide +kernel
theorem din2_29 : decode prog_44_method_1_code 29 = .ok (.astore 7, 2) := by decide +kernel
theorem din2_31 : decode prog_44_method_1_code 31 = .ok (.aload 7, 2) := by decide +kernel
theorem din2_33 : decode prog_44_method_1_code 33 = .ok (.arraylength, 1) := by decide +kernel
theorem din2_34 : decode prog_44_method_1_code 34 = .ok (.istore 8, 2) := by decide +kernel
theorem din2_36 : decode prog_44_method_1_code 36 = .ok (.iconst 0, 1) := by decide +kernel
theorem din2_37 : decode prog_44_method_1_code 37 = .ok (.istore 9, 2) := by decide +kernel
theorem din2_39 : decode prog_44_method_1_code 39 = .ok (.iload 9, 2) := by decide +kernel
theorem din2_41 : decode prog_44_method_1_code 41 = .ok (.iload 8, 2) := by decide +kernel
theorem din2_43 : decode prog_44_method_1_code 43 = .ok (.if_icmp .ge 24, 3) := by decide +kernel
theorem din2_46 : decode prog_44_method_1_code 46 = .ok (.aload 7, 2) := by decide +kernel
theorem din2_48 : decode prog_44_method_1_code 48 = .ok (.iload 9, 2) := by decide +kernel
theorem din2_50 : decode prog_44_method_1_code 50 = .ok (.iaload, 1) := by decide +kernel
theorem din2_51 : decode prog_44_method_1_code 51 = .ok (.istore 10, 2) := by decide +kernel
theorem din2_53 : decode prog_44_method_1_code 53 = .ok (.lload 5, 2) := by decide +kernel
theorem din2_55 : decode prog_44_method_1_code 55 = .ok (.iload 10, 2) := by decide +kernel
theorem din2_57 : decode prog_44_method_1_code 57 = .ok (.i2l, 1) := by decide +kernel
theorem din2_58 : decode prog_44_method_1_code 58 = .ok (.ladd, 1) := by decide +kernel
theorem din2_59 : decode prog_44_method_1_code 59 = .ok (.lstore 5, 2) := by decide +kernel
theorem din2_61 : decode prog_44_method_1_code 61 = .ok (.iinc 9 1, 3) := by decide +kernel
theorem din2_64 : decode prog_44_method_1_code 64 = .ok (.goto (-25), 3) := by decide +kernel
theorem din2_67 : decode prog_44_method_1_code 67 = .ok (.aload_n 0, 1) := by decide +kernel
theorem din2_68 : decode prog_44_method_1_code 68 = .ok (.lload 5, 2) := by decide +kernel
theorem din2_70 : decode prog_44_method_1_code 70 = .ok (.putfield 23, 3) := by decide +kernel
theorem din2_73 : decode prog_44_method_1_code 73 = .ok (.return_, 1) := by decide +kernel
theorem efin2 (m : MethodId) (x0 : Addr) (x1 : Addr) (x2 : Addr) (x3 : Addr) (x4 : Addr) : entryFrame m #[(.ref x0), (.ref x1), (.ref x2), (.ref x3), (.ref x4)] 11 = mkF m 0 #[.val (.ref x0), .val (.ref x1), .val (.ref x2), .val (.ref x3), .val (.ref x4), .unset, .unset, .unset, .unset, .unset, .unset] [] := by first | (simp [entryFrame, mkF, argsToLocals, Value.category]; done) | rfl
set_option maxRecDepth 65536 in
set_option maxHeartbeats 40000000 in
theorem rm_in2 (l : Launch) (Z : State) (a0 : Array Value) (hw : ∀ d ∈ tables_1, d.before a0 Z = true) (ws : List Jvm.Cond) (o1 : Addr) (r1 : Addr) (t1 : Addr) (c1 : Addr) (s1 : Addr) (kc : ClassId) (h0 : Heap) (n0 : Nat) (Z0 : n0 ≤ h0.size) (E1 : Exa Z h0 o1 "com/example/rank3/rank3/text/Postings") (F1_resources : Fld Z h0 o1 "com/example/rank3/rank3/text/Postings" "resources" "[I" .null) (F1_titleCounts : Fld Z h0 o1 "com/example/rank3/rank3/text/Postings" "titleCounts" "[I" .null) (F1_contentCounts : Fld Z h0 o1 "com/example/rank3/rank3/text/Postings" "contentCounts" "[I" .null) (F1_inStructure : Fld Z h0 o1 "com/example/rank3/rank3/text/Postings" "inStructure" "[Z" .null) (F1_collectionCount : Fld Z h0 o1 "com/example/rank3/rank3/text/Postings" "collectionCount" "J" (.long (0 : Int64))) (ge : n0 ≤ o1) (Vc : Arv Z h0 c1 kc .int (2 : Int32) [(.int (0 : Int32)), (.int (0 : Int32))] (.int (0 : Int32))) (hne : c1 ≠ o1) :
    own_Met l Z ws (⟨"com/example/rank3/rank3/text/Postings", "<init>", "([I[I[I[Z)V"⟩ : MethodName) prog_44_method_1_code 11 none ({ frames := 1, cells := 0, slots := 0, locals := 12 } : Room) #[(.ref o1), (.ref r1), (.ref t1), (.ref c1), (.ref s1)] h0 (fun v h L => v = none ∧ Fr n0 L ∧ Keep h0 h [o1] ∧ Exa Z h o1 "com/example/rank3/rank3/text/Postings" ∧ Fld Z h o1 "com/example/rank3/rank3/text/Postings" "resources" "[I" (.ref r1)) := by
  refine own_body (plainFor_of_name pn_1) ?_
  intro p e s m below meth c s₁ hx hby hml hret hlk hown hnm hZ X0 e0
  have hml : c.maxLocals = 11 := hml
  have hown : s.vm.findClass "com/example/rank3/rank3/text/Postings" = some m.cls := hown
  have N0 := Fr.nil n0
  refine own_cast (efin2 m o1 r1 t1 c1 s1) ?_
  show own_Go p e below _ s₁ (mkF m 0 #[.val (.ref o1), .val (.ref r1), .val (.ref t1), .val (.ref c1), .val (.ref s1), .unset, .unset, .unset, .unset, .unset, .unset] [])
  refine own_st (fun t k => XS.aloadN X0.here hx rfl (hb hby din2_0) rfl rfl k) ?_
  show own_Go p e below _ s₁ (mkF m 1 #[.val (.ref o1), .val (.ref r1), .val (.ref t1), .val (.ref c1), .val (.ref s1), .unset, .unset, .unset, .unset, .unset, .unset] [(.ref o1)])
  obtain ⟨T1, X1, e1, st1⟩ := initO X0 hx hZ hown (hw _ (List.mem_of_getElem? (i := 15) rfl)) (hw _ (List.mem_of_getElem? (i := 16) rfl)) (hw _ (List.mem_of_getElem? (i := 17) rfl)) e0 (g := (mkF m 1 #[.val (.ref o1), .val (.ref r1), .val (.ref t1), .val (.ref c1), .val (.ref s1), .unset, .unset, .unset, .unset, .unset, .unset] [(.ref o1)])) rfl (by rw [hml]; rfl) rfl (hb hby din2_1) (by decide) (W := 0) (by show 2 * 0 + _ ≤ _; exact Nat.le_of_eq rfl) (by decide)
  refine own_st st1 ?_
  show own_Go p e below _ T1 (mkF m 4 #[.val (.ref o1), .val (.ref r1), .val (.ref t1), .val (.ref c1), .val (.ref s1), .unset, .unset, .unset, .unset, .unset, .unset] [])
  refine own_st (fun t k => XS.aloadN X1.here hx rfl (hb hby din2_4) rfl rfl k) ?_
  show own_Go p e below _ T1 (mkF m 5 #[.val (.ref o1), .val (.ref r1), .val (.ref t1), .val (.ref c1), .val (.ref s1), .unset, .unset, .unset, .unset, .unset, .unset] [(.ref o1)])
  refine own_st (fun t k => XS.aloadN X1.here hx rfl (hb hby din2_5) rfl rfl k) ?_
  show own_Go p e below _ T1 (mkF m 6 #[.val (.ref o1), .val (.ref r1), .val (.ref t1), .val (.ref c1), .val (.ref s1), .unset, .unset, .unset, .unset, .unset, .unset] [(.ref r1), (.ref o1)])
  obtain ⟨T6, h6, X6, e6, W6, st6⟩ := putF X1 hx hZ hown (host := "") (Or.inl (hw _ (List.mem_of_getElem? (i := 18) rfl))) Via.refl e1 F1_resources E1 (Or.inr ⟨(hw _ (List.mem_of_getElem? (i := 19) rfl)), rfl, hnm⟩) (hw _ (List.mem_of_getElem? (i := 9) rfl)) (ty := (.array .int)) (by decide) rfl rfl (g := (mkF m 6 #[.val (.ref o1), .val (.ref r1), .val (.ref t1), .val (.ref c1), .val (.ref s1), .unset, .unset, .unset, .unset, .unset, .unset] [(.ref r1), (.ref o1)])) rfl rfl (hb hby din2_6)
  refine own_st st6 ?_
  have N6 := Fr.snoc X6 N0 ge
  have E6_o := E1.wr W6
  have F6_resources := F1_resources.same W6
  have F6_titleCounts := F1_titleCounts.other W6 (Or.inr (slot_ne (Or.inr (hw _ (List.mem_of_getElem? (i := 21) rfl))) (Or.inr (hw _ (List.mem_of_getElem? (i := 19) rfl))) (by decide) (t := (.array .int)) (t' := (.array .int)) (by decide) (by decide)))
  have F6_contentCounts := F1_contentCounts.other W6 (Or.inr (slot_ne (Or.inr (hw _ (List.mem_of_getElem? (i := 23) rfl))) (Or.inr (hw _ (List.mem_of_getElem? (i := 19) rfl))) (by decide) (t := (.array .int)) (t' := (.array .int)) (by decide) (by decide)))
  have F6_inStructure := F1_inStructure.other W6 (Or.inr (slot_ne (Or.inr (hw _ (List.mem_of_getElem? (i := 25) rfl))) (Or.inr (hw _ (List.mem_of_getElem? (i := 19) rfl))) (by decide) (t := (.array .boolean)) (t' := (.array .int)) (by decide) (by decide)))
  have F6_collectionCount := F1_collectionCount.other W6 (Or.inr (slot_ne (Or.inr (hw _ (List.mem_of_getElem? (i := 27) rfl))) (Or.inr (hw _ (List.mem_of_getElem? (i := 19) rfl))) (by decide) (t := .long) (t' := (.array .int)) (by decide) (by decide)))
  have VC6 := Vc.other W6 hne
  have K6 : Keep h0 h6 [o1] := (Keep.refl h0 [o1]).wr W6 (Or.inl (List.mem_of_getElem? (i := 0) rfl))
  show own_Go p e below _ T6 (mkF m 9 #[.val (.ref o1), .val (.ref r1), .val (.ref t1), .val (.ref c1), .val (.ref s1), .unset, .unset, .unset, .unset, .unset, .unset] [])
  refine own_st (fun t k => XS.aloadN X6.here hx rfl (hb hby din2_9) rfl rfl k) ?_
  show own_Go p e below _ T6 (mkF m 10 #[.val (.ref o1), .val (.ref r1), .val (.ref t1), .val (.ref c1), .val (.ref s1), .unset, .unset, .unset, .unset, .unset, .unset] [(.ref o1)])
  refine own_st (fun t k => XS.aloadN X6.here hx rfl (hb hby din2_10) rfl rfl k) ?_
  show own_Go p e below _ T6 (mkF m 11 #[.val (.ref o1), .val (.ref r1), .val (.ref t1), .val (.ref c1), .val (.ref s1), .unset, .unset, .unset, .unset, .unset, .unset] [(.ref t1), (.ref o1)])
  obtain ⟨T11, h11, X11, e11, W11, st11⟩ := putF X6 hx hZ hown (host := "") (Or.inl (hw _ (List.mem_of_getElem? (i := 20) rfl))) Via.refl e6 F6_titleCounts E6_o (Or.inr ⟨(hw _ (List.mem_of_getElem? (i := 21) rfl)), rfl, hnm⟩) (hw _ (List.mem_of_getElem? (i := 9) rfl)) (ty := (.array .int)) (by decide) rfl rfl (g := (mkF m 11 #[.val (.ref o1), .val (.ref r1), .val (.ref t1), .val (.ref c1), .val (.ref s1), .unset, .unset, .unset, .unset, .unset, .unset] [(.ref t1), (.ref o1)])) rfl rfl (hb hby din2_11)
  refine own_st st11 ?_
  have N11 := Fr.snoc X11 N6 ge
  have E11_o := E6_o.wr W11
  have F11_resources := F6_resources.other W11 (Or.inr (slot_ne (Or.inr (hw _ (List.mem_of_getElem? (i := 19) rfl))) (Or.inr (hw _ (List.mem_of_getElem? (i := 21) rfl))) (by decide) (t := (.array .int)) (t' := (.array .int)) (by decide) (by decide)))
  have F11_titleCounts := F6_titleCounts.same W11
  have F11_contentCounts := F6_contentCounts.other W11 (Or.inr (slot_ne (Or.inr (hw _ (List.mem_of_getElem? (i := 23) rfl))) (Or.inr (hw _ (List.mem_of_getElem? (i := 21) rfl))) (by decide) (t := (.array .int)) (t' := (.array .int)) (by decide) (by decide)))
  have F11_inStructure := F6_inStructure.other W11 (Or.inr (slot_ne (Or.inr (hw _ (List.mem_of_getElem? (i := 25) rfl))) (Or.inr (hw _ (List.mem_of_getElem? (i := 21) rfl))) (by decide) (t := (.array .boolean)) (t' := (.array .int)) (by decide) (by decide)))
  have F11_collectionCount := F6_collectionCount.other W11 (Or.inr (slot_ne (Or.inr (hw _ (List.mem_of_getElem? (i := 27) rfl))) (Or.inr (hw _ (List.mem_of_getElem? (i := 21) rfl))) (by decide) (t := .long) (t' := (.array .int)) (by decide) (by decide)))
  have VC11 := VC6.other W11 hne
  have K11 : Keep h0 h11 [o1] := K6.wr W11 (Or.inl (List.mem_of_getElem? (i := 0) rfl))
  show own_Go p e below _ T11 (mkF m 14 #[.val (.ref o1), .val (.ref r1), .val (.ref t1), .val (.ref c1), .val (.ref s1), .unset, .unset, .unset, .unset, .unset, .unset] [])
  refine own_st (fun t k => XS.aloadN X11.here hx rfl (hb hby din2_14) rfl rfl k) ?_
  show own_Go p e below _ T11 (mkF m 15 #[.val (.ref o1), .val (.ref r1), .val (.ref t1), .val (.ref c1), .val (.ref s1), .unset, .unset, .unset, .unset, .unset, .unset] [(.ref o1)])
  refine own_st (fun t k => XS.aloadN X11.here hx rfl (hb hby din2_15) rfl rfl k) ?_
  show own_Go p e below _ T11 (mkF m 16 #[.val (.ref o1), .val (.ref r1), .val (.ref t1), .val (.ref c1), .val (.ref s1), .unset, .unset, .unset, .unset, .unset, .unset] [(.ref c1), (.ref o1)])
  obtain ⟨T16, h16, X16, e16, W16, st16⟩ := putF X11 hx hZ hown (host := "") (Or.inl (hw _ (List.mem_of_getElem? (i := 22) rfl))) Via.refl e11 F11_contentCounts E11_o (Or.inr ⟨(hw _ (List.mem_of_getElem? (i := 23) rfl)), rfl, hnm⟩) (hw _ (List.mem_of_getElem? (i := 9) rfl)) (ty := (.array .int)) (by decide) rfl rfl (g := (mkF m 16 #[.val (.ref o1), .val (.ref r1), .val (.ref t1), .val (.ref c1), .val (.ref s1), .unset, .unset, .unset, .unset, .unset, .unset] [(.ref c1), (.ref o1)])) rfl rfl (hb hby din2_16)
  refine own_st st16 ?_
  have N16 := Fr.snoc X16 N11 ge
  have E16_o := E11_o.wr W16
  have F16_resources := F11_resources.other W16 (Or.inr (slot_ne (Or.inr (hw _ (List.mem_of_getElem? (i := 19) rfl))) (Or.inr (hw _ (List.mem_of_getElem? (i := 23) rfl))) (by decide) (t := (.array .int)) (t' := (.array .int)) (by decide) (by decide)))
  have F16_titleCounts := F11_titleCounts.other W16 (Or.inr (slot_ne (Or.inr (hw _ (List.mem_of_getElem? (i := 21) rfl))) (Or.inr (hw _ (List.mem_of_getElem? (i := 23) rfl))) (by decide) (t := (.array .int)) (t' := (.array .int)) (by decide) (by decide)))
  have F16_contentCounts := F11_contentCounts.same W16
  have F16_inStructure := F11_inStructure.other W16 (Or.inr (slot_ne (Or.inr (hw _ (List.mem_of_getElem? (i := 25) rfl))) (Or.inr (hw _ (List.mem_of_getElem? (i := 23) rfl))) (by decide) (t := (.array .boolean)) (t' := (.array .int)) (by decide) (by decide)))
  have F16_collectionCount := F11_collectionCount.other W16 (Or.inr (slot_ne (Or.inr (hw _ (List.mem_of_getElem? (i := 27) rfl))) (Or.inr (hw _ (List.mem_of_getElem? (i := 23) rfl))) (by decide) (t := .long) (t' := (.array .int)) (by decide) (by decide)))
  have VC16 := VC11.other W16 hne
  have K16 : Keep h0 h16 [o1] := K11.wr W16 (Or.inl (List.mem_of_getElem? (i := 0) rfl))
  show own_Go p e below _ T16 (mkF m 19 #[.val (.ref o1), .val (.ref r1), .val (.ref t1), .val (.ref c1), .val (.ref s1), .unset, .unset, .unset, .unset, .unset, .unset] [])
  refine own_st (fun t k => XS.aloadN X16.here hx rfl (hb hby din2_19) rfl rfl k) ?_
  show own_Go p e below _ T16 (mkF m 20 #[.val (.ref o1), .val (.ref r1), .val (.ref t1), .val (.ref c1), .val (.ref s1), .unset, .unset, .unset, .unset, .unset, .unset] [(.ref o1)])
  refine own_st (fun t k => XS.aload X16.here hx rfl (hb hby din2_20) rfl rfl k) ?_
  show own_Go p e below _ T16 (mkF m 22 #[.val (.ref o1), .val (.ref r1), .val (.ref t1), .val (.ref c1), .val (.ref s1), .unset, .unset, .unset, .unset, .unset, .unset] [(.ref s1), (.ref o1)])
  obtain ⟨T22, h22, X22, e22, W22, st22⟩ := putF X16 hx hZ hown (host := "") (Or.inl (hw _ (List.mem_of_getElem? (i := 24) rfl))) Via.refl e16 F16_inStructure E16_o (Or.inr ⟨(hw _ (List.mem_of_getElem? (i := 25) rfl)), rfl, hnm⟩) (hw _ (List.mem_of_getElem? (i := 9) rfl)) (ty := (.array .boolean)) (by decide) rfl rfl (g := (mkF m 22 #[.val (.ref o1), .val (.ref r1), .val (.ref t1), .val (.ref c1), .val (.ref s1), .unset, .unset, .unset, .unset, .unset, .unset] [(.ref s1), (.ref o1)])) rfl rfl (hb hby din2_22)
  refine own_st st22 ?_
  have N22 := Fr.snoc X22 N16 ge
  have E22_o := E16_o.wr W22
  have F22_resources := F16_resources.other W22 (Or.inr (slot_ne (Or.inr (hw _ (List.mem_of_getElem? (i := 19) rfl))) (Or.inr (hw _ (List.mem_of_getElem? (i := 25) rfl))) (by decide) (t := (.array .int)) (t' := (.array .boolean)) (by decide) (by decide)))
  have F22_titleCounts := F16_titleCounts.other W22 (Or.inr (slot_ne (Or.inr (hw _ (List.mem_of_getElem? (i := 21) rfl))) (Or.inr (hw _ (List.mem_of_getElem? (i := 25) rfl))) (by decide) (t := (.array .int)) (t' := (.array .boolean)) (by decide) (by decide)))
  have F22_contentCounts := F16_contentCounts.other W22 (Or.inr (slot_ne (Or.inr (hw _ (List.mem_of_getElem? (i := 23) rfl))) (Or.inr (hw _ (List.mem_of_getElem? (i := 25) rfl))) (by decide) (t := (.array .int)) (t' := (.array .boolean)) (by decide) (by decide)))
  have F22_inStructure := F16_inStructure.same W22
  have F22_collectionCount := F16_collectionCount.other W22 (Or.inr (slot_ne (Or.inr (hw _ (List.mem_of_getElem? (i := 27) rfl))) (Or.inr (hw _ (List.mem_of_getElem? (i := 25) rfl))) (by decide) (t := .long) (t' := (.array .boolean)) (by decide) (by decide)))
  have VC22 := VC16.other W22 hne
  have K22 : Keep h0 h22 [o1] := K16.wr W22 (Or.inl (List.mem_of_getElem? (i := 0) rfl))
  show own_Go p e below _ T22 (mkF m 25 #[.val (.ref o1), .val (.ref r1), .val (.ref t1), .val (.ref c1), .val (.ref s1), .unset, .unset, .unset, .unset, .unset, .unset] [])
  refine own_st (fun t k => XS.lconst X22.here hx rfl (hb hby din2_25) k) ?_
  show own_Go p e below _ T22 (mkF m 26 #[.val (.ref o1), .val (.ref r1), .val (.ref t1), .val (.ref c1), .val (.ref s1), .unset, .unset, .unset, .unset, .unset, .unset] [(.long (0 : Int64))])
  refine own_st (fun t k => XS.lstore X22.here hx rfl (hb hby din2_26) rfl (l' := #[.val (.ref o1), .val (.ref r1), .val (.ref t1), .val (.ref c1), .val (.ref s1), .val (.long (0 : Int64)), .second, .unset, .unset, .unset, .unset]) rfl k) ?_
  show own_Go p e below _ T22 (mkF m 28 #[.val (.ref o1), .val (.ref r1), .val (.ref t1), .val (.ref c1), .val (.ref s1), .val (.long (0 : Int64)), .second, .unset, .unset, .unset, .unset] [])
  refine own_st (fun t k => XS.aloadN X22.here hx rfl (hb hby din2_28) rfl rfl k) ?_
  show own_Go p e below _ T22 (mkF m 29 #[.val (.ref o1), .val (.ref r1), .val (.ref t1), .val (.ref c1), .val (.ref s1), .val (.long (0 : Int64)), .second, .unset, .unset, .unset, .unset] [(.ref c1)])
  refine own_st (fun t k => XS.astore X22.here hx rfl (hb hby din2_29) rfl rfl (l' := #[.val (.ref o1), .val (.ref r1), .val (.ref t1), .val (.ref c1), .val (.ref s1), .val (.long (0 : Int64)), .second, .val (.ref c1), .unset, .unset, .unset]) rfl k) ?_
  show own_Go p e below _ T22 (mkF m 31 #[.val (.ref o1), .val (.ref r1), .val (.ref t1), .val (.ref c1), .val (.ref s1), .val (.long (0 : Int64)), .second, .val (.ref c1), .unset, .unset, .unset] [])
  refine own_st (fun t k => XS.aload X22.here hx rfl (hb hby din2_31) rfl rfl k) ?_
  show own_Go p e below _ T22 (mkF m 33 #[.val (.ref o1), .val (.ref r1), .val (.ref t1), .val (.ref c1), .val (.ref s1), .val (.long (0 : Int64)), .second, .val (.ref c1), .unset, .unset, .unset] [(.ref c1)])
  obtain ⟨cl33, Ar33, -, S33, M33, -, -⟩ := id VC22
  refine own_st (X22.arraylength hx (by rw [e22]; exact Ar33.1) (State.isArrayOf_alike hZ.alike Ar33.2.1) (g := (mkF m 33 #[.val (.ref o1), .val (.ref r1), .val (.ref t1), .val (.ref c1), .val (.ref s1), .val (.long (0 : Int64)), .second, .val (.ref c1), .unset, .unset, .unset] [(.ref c1)])) rfl rfl (hb hby din2_33)) ?_
  rw [len_of S33 M33]
  show own_Go p e below _ T22 (mkF m 34 #[.val (.ref o1), .val (.ref r1), .val (.ref t1), .val (.ref c1), .val (.ref s1), .val (.long (0 : Int64)), .second, .val (.ref c1), .unset, .unset, .unset] [(.int (2 : Int32))])
  refine own_st (fun t k => XS.istore X22.here hx rfl (hb hby din2_34) rfl (l' := #[.val (.ref o1), .val (.ref r1), .val (.ref t1), .val (.ref c1), .val (.ref s1), .val (.long (0 : Int64)), .second, .val (.ref c1), .val (.int (2 : Int32)), .unset, .unset]) rfl k) ?_
  show own_Go p e below _ T22 (mkF m 36 #[.val (.ref o1), .val (.ref r1), .val (.ref t1), .val (.ref c1), .val (.ref s1), .val (.long (0 : Int64)), .second, .val (.ref c1), .val (.int (2 : Int32)), .unset, .unset] [])
  refine own_st (fun t k => XS.iconst X22.here hx rfl (hb hby din2_36) k) ?_
  show own_Go p e below _ T22 (mkF m 37 #[.val (.ref o1), .val (.ref r1), .val (.ref t1), .val (.ref c1), .val (.ref s1), .val (.long (0 : Int64)), .second, .val (.ref c1), .val (.int (2 : Int32)), .unset, .unset] [(.int (0 : Int32))])
  refine own_st (fun t k => XS.istore X22.here hx rfl (hb hby din2_37) rfl (l' := #[.val (.ref o1), .val (.ref r1), .val (.ref t1), .val (.ref c1), .val (.ref s1), .val (.long (0 : Int64)), .second, .val (.ref c1), .val (.int (2 : Int32)), .val (.int (0 : Int32)), .unset]) rfl k) ?_
  show own_Go p e below _ T22 (mkF m 39 #[.val (.ref o1), .val (.ref r1), .val (.ref t1), .val (.ref c1), .val (.ref s1), .val (.long (0 : Int64)), .second, .val (.ref c1), .val (.int (2 : Int32)), .val (.int (0 : Int32)), .unset] [])
  refine own_st (fun t k => XS.iload X22.here hx rfl (hb hby din2_39) rfl  k) ?_
  show own_Go p e below _ T22 (mkF m 41 #[.val (.ref o1), .val (.ref r1), .val (.ref t1), .val (.ref c1), .val (.ref s1), .val (.long (0 : Int64)), .second, .val (.ref c1), .val (.int (2 : Int32)), .val (.int (0 : Int32)), .unset] [(.int (0 : Int32))])
  refine own_st (fun t k => XS.iload X22.here hx rfl (hb hby din2_41) rfl  k) ?_
  show own_Go p e below _ T22 (mkF m 43 #[.val (.ref o1), .val (.ref r1), .val (.ref t1), .val (.ref c1), .val (.ref s1), .val (.long (0 : Int64)), .second, .val (.ref c1), .val (.int (2 : Int32)), .val (.int (0 : Int32)), .unset] [(.int (2 : Int32)), (.int (0 : Int32))])
  refine own_st (fun t k => XS.icmpNo X22.here hx rfl (hb hby din2_43) rfl (tlt (by decide : (0 : Int32) < (2 : Int32))).2.1 k) ?_
  show own_Go p e below _ T22 (mkF m 46 #[.val (.ref o1), .val (.ref r1), .val (.ref t1), .val (.ref c1), .val (.ref s1), .val (.long (0 : Int64)), .second, .val (.ref c1), .val (.int (2 : Int32)), .val (.int (0 : Int32)), .unset] [])
  refine own_st (fun t k => XS.aload X22.here hx rfl (hb hby din2_46) rfl rfl k) ?_
  show own_Go p e below _ T22 (mkF m 48 #[.val (.ref o1), .val (.ref r1), .val (.ref t1), .val (.ref c1), .val (.ref s1), .val (.long (0 : Int64)), .second, .val (.ref c1), .val (.int (2 : Int32)), .val (.int (0 : Int32)), .unset] [(.ref c1)])
  refine own_st (fun t k => XS.iload X22.here hx rfl (hb hby din2_48) rfl  k) ?_
  show own_Go p e below _ T22 (mkF m 50 #[.val (.ref o1), .val (.ref r1), .val (.ref t1), .val (.ref c1), .val (.ref s1), .val (.long (0 : Int64)), .second, .val (.ref c1), .val (.int (2 : Int32)), .val (.int (0 : Int32)), .unset] [(.int (0 : Int32)), (.ref c1)])
  obtain ⟨cli0, Ari0, -, Si0, Mi0, Hi0, Gi0⟩ := id VC22
  have hini0 : ¬ ((0 : Int32) < 0 ∨ cli0.slots.size ≤ ((0 : Int32)).toNatClampNeg) := inb_of Si0 ⟨by decide, by decide⟩
  refine own_st (X22.iaload hx (j := (0 : Int32)) (v := (.int (0 : Int32))) (by rw [e22]; exact Ari0.1) (State.isArrayOf_alike hZ.alike Ari0.2.1) Ari0.2.2 hini0 (Has.at Hi0 hini0 rfl) (g := (mkF m 50 #[.val (.ref o1), .val (.ref r1), .val (.ref t1), .val (.ref c1), .val (.ref s1), .val (.long (0 : Int64)), .second, .val (.ref c1), .val (.int (2 : Int32)), .val (.int (0 : Int32)), .unset] [(.int (0 : Int32)), (.ref c1)])) rfl rfl (hb hby din2_50)) ?_
  show own_Go p e below _ T22 (mkF m 51 #[.val (.ref o1), .val (.ref r1), .val (.ref t1), .val (.ref c1), .val (.ref s1), .val (.long (0 : Int64)), .second, .val (.ref c1), .val (.int (2 : Int32)), .val (.int (0 : Int32)), .unset] [(.int (0 : Int32))])
  refine own_st (fun t k => XS.istore X22.here hx rfl (hb hby din2_51) rfl (l' := #[.val (.ref o1), .val (.ref r1), .val (.ref t1), .val (.ref c1), .val (.ref s1), .val (.long (0 : Int64)), .second, .val (.ref c1), .val (.int (2 : Int32)), .val (.int (0 : Int32)), .val (.int (0 : Int32))]) rfl k) ?_
  show own_Go p e below _ T22 (mkF m 53 #[.val (.ref o1), .val (.ref r1), .val (.ref t1), .val (.ref c1), .val (.ref s1), .val (.long (0 : Int64)), .second, .val (.ref c1), .val (.int (2 : Int32)), .val (.int (0 : Int32)), .val (.int (0 : Int32))] [])
  refine own_st (fun t k => XS.lload X22.here hx rfl (hb hby din2_53) rfl  k) ?_
  show own_Go p e below _ T22 (mkF m 55 #[.val (.ref o1), .val (.ref r1), .val (.ref t1), .val (.ref c1), .val (.ref s1), .val (.long (0 : Int64)), .second, .val (.ref c1), .val (.int (2 : Int32)), .val (.int (0 : Int32)), .val (.int (0 : Int32))] [(.long (0 : Int64))])
  refine own_st (fun t k => XS.iload X22.here hx rfl (hb hby din2_55) rfl  k) ?_
  show own_Go p e below _ T22 (mkF m 57 #[.val (.ref o1), .val (.ref r1), .val (.ref t1), .val (.ref c1), .val (.ref s1), .val (.long (0 : Int64)), .second, .val (.ref c1), .val (.int (2 : Int32)), .val (.int (0 : Int32)), .val (.int (0 : Int32))] [(.int (0 : Int32)), (.long (0 : Int64))])
  refine own_st (fun t k => XS.i2l X22.here hx rfl (hb hby din2_57) rfl k) ?_
  show own_Go p e below _ T22 (mkF m 58 #[.val (.ref o1), .val (.ref r1), .val (.ref t1), .val (.ref c1), .val (.ref s1), .val (.long (0 : Int64)), .second, .val (.ref c1), .val (.int (2 : Int32)), .val (.int (0 : Int32)), .val (.int (0 : Int32))] [(.long ((0 : Int32).toInt64)), (.long (0 : Int64))])
  refine own_st (fun t k => XS.ladd X22.here hx rfl (hb hby din2_58) rfl k) ?_
  show own_Go p e below _ T22 (mkF m 59 #[.val (.ref o1), .val (.ref r1), .val (.ref t1), .val (.ref c1), .val (.ref s1), .val (.long (0 : Int64)), .second, .val (.ref c1), .val (.int (2 : Int32)), .val (.int (0 : Int32)), .val (.int (0 : Int32))] [(.long ((0 : Int64) + ((0 : Int32).toInt64)))])
  refine own_st (fun t k => XS.lstore X22.here hx rfl (hb hby din2_59) rfl (l' := #[.val (.ref o1), .val (.ref r1), .val (.ref t1), .val (.ref c1), .val (.ref s1), .val (.long ((0 : Int64) + ((0 : Int32).toInt64))), .second, .val (.ref c1), .val (.int (2 : Int32)), .val (.int (0 : Int32)), .val (.int (0 : Int32))]) rfl k) ?_
  show own_Go p e below _ T22 (mkF m 61 #[.val (.ref o1), .val (.ref r1), .val (.ref t1), .val (.ref c1), .val (.ref s1), .val (.long ((0 : Int64) + ((0 : Int32).toInt64))), .second, .val (.ref c1), .val (.int (2 : Int32)), .val (.int (0 : Int32)), .val (.int (0 : Int32))] [])
  refine own_st (fun t k => XS.iinc X22.here hx rfl (hb hby din2_61) rfl (l' := #[.val (.ref o1), .val (.ref r1), .val (.ref t1), .val (.ref c1), .val (.ref s1), .val (.long ((0 : Int64) + ((0 : Int32).toInt64))), .second, .val (.ref c1), .val (.int (2 : Int32)), .val (.int ((0 : Int32) + (1 : Int32))), .val (.int (0 : Int32))]) rfl k) ?_
  show own_Go p e below _ T22 (mkF m 64 #[.val (.ref o1), .val (.ref r1), .val (.ref t1), .val (.ref c1), .val (.ref s1), .val (.long ((0 : Int64) + ((0 : Int32).toInt64))), .second, .val (.ref c1), .val (.int (2 : Int32)), .val (.int ((0 : Int32) + (1 : Int32))), .val (.int (0 : Int32))] [])
  show own_Go p e below _ T22 (mkF m 64 #[.val (.ref o1), .val (.ref r1), .val (.ref t1), .val (.ref c1), .val (.ref s1), .val (.long ((0 : Int64) + ((0 : Int32).toInt64))), .second, .val (.ref c1), .val (.int (2 : Int32)), .val (.int (1 : Int32)), .val (.int (0 : Int32))] [])
  refine own_st (fun t k => XS.goto X22.here hx rfl (pc0 := 64) (pc' := 39) rfl (hb hby din2_64) (by decide) (by decide) k) ?_
  show own_Go p e below _ T22 (mkF m 39 #[.val (.ref o1), .val (.ref r1), .val (.ref t1), .val (.ref c1), .val (.ref s1), .val (.long ((0 : Int64) + ((0 : Int32).toInt64))), .second, .val (.ref c1), .val (.int (2 : Int32)), .val (.int (1 : Int32)), .val (.int (0 : Int32))] [])
  refine own_st (fun t k => XS.iload X22.here hx rfl (hb hby din2_39) rfl  k) ?_
  show own_Go p e below _ T22 (mkF m 41 #[.val (.ref o1), .val (.ref r1), .val (.ref t1), .val (.ref c1), .val (.ref s1), .val (.long ((0 : Int64) + ((0 : Int32).toInt64))), .second, .val (.ref c1), .val (.int (2 : Int32)), .val (.int (1 : Int32)), .val (.int (0 : Int32))] [(.int (1 : Int32))])
  refine own_st (fun t k => XS.iload X22.here hx rfl (hb hby din2_41) rfl  k) ?_
  show own_Go p e below _ T22 (mkF m 43 #[.val (.ref o1), .val (.ref r1), .val (.ref t1), .val (.ref c1), .val (.ref s1), .val (.long ((0 : Int64) + ((0 : Int32).toInt64))), .second, .val (.ref c1), .val (.int (2 : Int32)), .val (.int (1 : Int32)), .val (.int (0 : Int32))] [(.int (2 : Int32)), (.int (1 : Int32))])
  refine own_st (fun t k => XS.icmpNo X22.here hx rfl (hb hby din2_43) rfl (tlt (by decide : (1 : Int32) < (2 : Int32))).2.1 k) ?_
  show own_Go p e below _ T22 (mkF m 46 #[.val (.ref o1), .val (.ref r1), .val (.ref t1), .val (.ref c1), .val (.ref s1), .val (.long ((0 : Int64) + ((0 : Int32).toInt64))), .second, .val (.ref c1), .val (.int (2 : Int32)), .val (.int (1 : Int32)), .val (.int (0 : Int32))] [])
  refine own_st (fun t k => XS.aload X22.here hx rfl (hb hby din2_46) rfl rfl k) ?_
  show own_Go p e below _ T22 (mkF m 48 #[.val (.ref o1), .val (.ref r1), .val (.ref t1), .val (.ref c1), .val (.ref s1), .val (.long ((0 : Int64) + ((0 : Int32).toInt64))), .second, .val (.ref c1), .val (.int (2 : Int32)), .val (.int (1 : Int32)), .val (.int (0 : Int32))] [(.ref c1)])
  refine own_st (fun t k => XS.iload X22.here hx rfl (hb hby din2_48) rfl  k) ?_
  show own_Go p e below _ T22 (mkF m 50 #[.val (.ref o1), .val (.ref r1), .val (.ref t1), .val (.ref c1), .val (.ref s1), .val (.long ((0 : Int64) + ((0 : Int32).toInt64))), .second, .val (.ref c1), .val (.int (2 : Int32)), .val (.int (1 : Int32)), .val (.int (0 : Int32))] [(.int (1 : Int32)), (.ref c1)])
  obtain ⟨cli1, Ari1, -, Si1, Mi1, Hi1, Gi1⟩ := id VC22
  have hini1 : ¬ ((1 : Int32) < 0 ∨ cli1.slots.size ≤ ((1 : Int32)).toNatClampNeg) := inb_of Si1 ⟨by decide, by decide⟩
  refine own_st (X22.iaload hx (j := (1 : Int32)) (v := (.int (0 : Int32))) (by rw [e22]; exact Ari1.1) (State.isArrayOf_alike hZ.alike Ari1.2.1) Ari1.2.2 hini1 (Has.at Hi1 hini1 rfl) (g := (mkF m 50 #[.val (.ref o1), .val (.ref r1), .val (.ref t1), .val (.ref c1), .val (.ref s1), .val (.long ((0 : Int64) + ((0 : Int32).toInt64))), .second, .val (.ref c1), .val (.int (2 : Int32)), .val (.int (1 : Int32)), .val (.int (0 : Int32))] [(.int (1 : Int32)), (.ref c1)])) rfl rfl (hb hby din2_50)) ?_
  show own_Go p e below _ T22 (mkF m 51 #[.val (.ref o1), .val (.ref r1), .val (.ref t1), .val (.ref c1), .val (.ref s1), .val (.long ((0 : Int64) + ((0 : Int32).toInt64))), .second, .val (.ref c1), .val (.int (2 : Int32)), .val (.int (1 : Int32)), .val (.int (0 : Int32))] [(.int (0 : Int32))])
  refine own_st (fun t k => XS.istore X22.here hx rfl (hb hby din2_51) rfl (l' := #[.val (.ref o1), .val (.ref r1), .val (.ref t1), .val (.ref c1), .val (.ref s1), .val (.long ((0 : Int64) + ((0 : Int32).toInt64))), .second, .val (.ref c1), .val (.int (2 : Int32)), .val (.int (1 : Int32)), .val (.int (0 : Int32))]) rfl k) ?_
  show own_Go p e below _ T22 (mkF m 53 #[.val (.ref o1), .val (.ref r1), .val (.ref t1), .val (.ref c1), .val (.ref s1), .val (.long ((0 : Int64) + ((0 : Int32).toInt64))), .second, .val (.ref c1), .val (.int (2 : Int32)), .val (.int (1 : Int32)), .val (.int (0 : Int32))] [])
  refine own_st (fun t k => XS.lload X22.here hx rfl (hb hby din2_53) rfl  k) ?_
  show own_Go p e below _ T22 (mkF m 55 #[.val (.ref o1), .val (.ref r1), .val (.ref t1), .val (.ref c1), .val (.ref s1), .val (.long ((0 : Int64) + ((0 : Int32).toInt64))), .second, .val (.ref c1), .val (.int (2 : Int32)), .val (.int (1 : Int32)), .val (.int (0 : Int32))] [(.long ((0 : Int64) + ((0 : Int32).toInt64)))])
  refine own_st (fun t k => XS.iload X22.here hx rfl (hb hby din2_55) rfl  k) ?_
  show own_Go p e below _ T22 (mkF m 57 #[.val (.ref o1), .val (.ref r1), .val (.ref t1), .val (.ref c1), .val (.ref s1), .val (.long ((0 : Int64) + ((0 : Int32).toInt64))), .second, .val (.ref c1), .val (.int (2 : Int32)), .val (.int (1 : Int32)), .val (.int (0 : Int32))] [(.int (0 : Int32)), (.long ((0 : Int64) + ((0 : Int32).toInt64)))])
  refine own_st (fun t k => XS.i2l X22.here hx rfl (hb hby din2_57) rfl k) ?_
  show own_Go p e below _ T22 (mkF m 58 #[.val (.ref o1), .val (.ref r1), .val (.ref t1), .val (.ref c1), .val (.ref s1), .val (.long ((0 : Int64) + ((0 : Int32).toInt64))), .second, .val (.ref c1), .val (.int (2 : Int32)), .val (.int (1 : Int32)), .val (.int (0 : Int32))] [(.long ((0 : Int32).toInt64)), (.long ((0 : Int64) + ((0 : Int32).toInt64)))])
  refine own_st (fun t k => XS.ladd X22.here hx rfl (hb hby din2_58) rfl k) ?_
  show own_Go p e below _ T22 (mkF m 59 #[.val (.ref o1), .val (.ref r1), .val (.ref t1), .val (.ref c1), .val (.ref s1), .val (.long ((0 : Int64) + ((0 : Int32).toInt64))), .second, .val (.ref c1), .val (.int (2 : Int32)), .val (.int (1 : Int32)), .val (.int (0 : Int32))] [(.long (((0 : Int64) + ((0 : Int32).toInt64)) + ((0 : Int32).toInt64)))])
  refine own_st (fun t k => XS.lstore X22.here hx rfl (hb hby din2_59) rfl (l' := #[.val (.ref o1), .val (.ref r1), .val (.ref t1), .val (.ref c1), .val (.ref s1), .val (.long (((0 : Int64) + ((0 : Int32).toInt64)) + ((0 : Int32).toInt64))), .second, .val (.ref c1), .val (.int (2 : Int32)), .val (.int (1 : Int32)), .val (.int (0 : Int32))]) rfl k) ?_
  show own_Go p e below _ T22 (mkF m 61 #[.val (.ref o1), .val (.ref r1), .val (.ref t1), .val (.ref c1), .val (.ref s1), .val (.long (((0 : Int64) + ((0 : Int32).toInt64)) + ((0 : Int32).toInt64))), .second, .val (.ref c1), .val (.int (2 : Int32)), .val (.int (1 : Int32)), .val (.int (0 : Int32))] [])
  refine own_st (fun t k => XS.iinc X22.here hx rfl (hb hby din2_61) rfl (l' := #[.val (.ref o1), .val (.ref r1), .val (.ref t1), .val (.ref c1), .val (.ref s1), .val (.long (((0 : Int64) + ((0 : Int32).toInt64)) + ((0 : Int32).toInt64))), .second, .val (.ref c1), .val (.int (2 : Int32)), .val (.int ((1 : Int32) + (1 : Int32))), .val (.int (0 : Int32))]) rfl k) ?_
  show own_Go p e below _ T22 (mkF m 64 #[.val (.ref o1), .val (.ref r1), .val (.ref t1), .val (.ref c1), .val (.ref s1), .val (.long (((0 : Int64) + ((0 : Int32).toInt64)) + ((0 : Int32).toInt64))), .second, .val (.ref c1), .val (.int (2 : Int32)), .val (.int ((1 : Int32) + (1 : Int32))), .val (.int (0 : Int32))] [])
  show own_Go p e below _ T22 (mkF m 64 #[.val (.ref o1), .val (.ref r1), .val (.ref t1), .val (.ref c1), .val (.ref s1), .val (.long (((0 : Int64) + ((0 : Int32).toInt64)) + ((0 : Int32).toInt64))), .second, .val (.ref c1), .val (.int (2 : Int32)), .val (.int (2 : Int32)), .val (.int (0 : Int32))] [])
  refine own_st (fun t k => XS.goto X22.here hx rfl (pc0 := 64) (pc' := 39) rfl (hb hby din2_64) (by decide) (by decide) k) ?_
  show own_Go p e below _ T22 (mkF m 39 #[.val (.ref o1), .val (.ref r1), .val (.ref t1), .val (.ref c1), .val (.ref s1), .val (.long (((0 : Int64) + ((0 : Int32).toInt64)) + ((0 : Int32).toInt64))), .second, .val (.ref c1), .val (.int (2 : Int32)), .val (.int (2 : Int32)), .val (.int (0 : Int32))] [])
  refine own_st (fun t k => XS.iload X22.here hx rfl (hb hby din2_39) rfl  k) ?_
  show own_Go p e below _ T22 (mkF m 41 #[.val (.ref o1), .val (.ref r1), .val (.ref t1), .val (.ref c1), .val (.ref s1), .val (.long (((0 : Int64) + ((0 : Int32).toInt64)) + ((0 : Int32).toInt64))), .second, .val (.ref c1), .val (.int (2 : Int32)), .val (.int (2 : Int32)), .val (.int (0 : Int32))] [(.int (2 : Int32))])
  refine own_st (fun t k => XS.iload X22.here hx rfl (hb hby din2_41) rfl  k) ?_
  show own_Go p e below _ T22 (mkF m 43 #[.val (.ref o1), .val (.ref r1), .val (.ref t1), .val (.ref c1), .val (.ref s1), .val (.long (((0 : Int64) + ((0 : Int32).toInt64)) + ((0 : Int32).toInt64))), .second, .val (.ref c1), .val (.int (2 : Int32)), .val (.int (2 : Int32)), .val (.int (0 : Int32))] [(.int (2 : Int32)), (.int (2 : Int32))])
  refine own_st (fun t k => XS.icmpYes X22.here hx rfl (pc0 := 43) (pc' := 67) rfl (hb hby din2_43) rfl (flt (by decide : ¬ (2 : Int32) < (2 : Int32))).2.1 (by decide) (by decide) k) ?_
  show own_Go p e below _ T22 (mkF m 67 #[.val (.ref o1), .val (.ref r1), .val (.ref t1), .val (.ref c1), .val (.ref s1), .val (.long (((0 : Int64) + ((0 : Int32).toInt64)) + ((0 : Int32).toInt64))), .second, .val (.ref c1), .val (.int (2 : Int32)), .val (.int (2 : Int32)), .val (.int (0 : Int32))] [])
  refine own_st (fun t k => XS.aloadN X22.here hx rfl (hb hby din2_67) rfl rfl k) ?_
  show own_Go p e below _ T22 (mkF m 68 #[.val (.ref o1), .val (.ref r1), .val (.ref t1), .val (.ref c1), .val (.ref s1), .val (.long (((0 : Int64) + ((0 : Int32).toInt64)) + ((0 : Int32).toInt64))), .second, .val (.ref c1), .val (.int (2 : Int32)), .val (.int (2 : Int32)), .val (.int (0 : Int32))] [(.ref o1)])
  refine own_st (fun t k => XS.lload X22.here hx rfl (hb hby din2_68) rfl  k) ?_
  show own_Go p e below _ T22 (mkF m 70 #[.val (.ref o1), .val (.ref r1), .val (.ref t1), .val (.ref c1), .val (.ref s1), .val (.long (((0 : Int64) + ((0 : Int32).toInt64)) + ((0 : Int32).toInt64))), .second, .val (.ref c1), .val (.int (2 : Int32)), .val (.int (2 : Int32)), .val (.int (0 : Int32))] [(.long (((0 : Int64) + ((0 : Int32).toInt64)) + ((0 : Int32).toInt64))), (.ref o1)])
  obtain ⟨T70, h70, X70, e70, W70, st70⟩ := putF X22 hx hZ hown (host := "") (Or.inl (hw _ (List.mem_of_getElem? (i := 26) rfl))) Via.refl e22 F22_collectionCount E22_o (Or.inr ⟨(hw _ (List.mem_of_getElem? (i := 27) rfl)), rfl, hnm⟩) (hw _ (List.mem_of_getElem? (i := 9) rfl)) (ty := .long) (by decide) rfl rfl (g := (mkF m 70 #[.val (.ref o1), .val (.ref r1), .val (.ref t1), .val (.ref c1), .val (.ref s1), .val (.long (((0 : Int64) + ((0 : Int32).toInt64)) + ((0 : Int32).toInt64))), .second, .val (.ref c1), .val (.int (2 : Int32)), .val (.int (2 : Int32)), .val (.int (0 : Int32))] [(.long (((0 : Int64) + ((0 : Int32).toInt64)) + ((0 : Int32).toInt64))), (.ref o1)])) rfl rfl (hb hby din2_70)
  refine own_st st70 ?_
  have N70 := Fr.snoc X70 N22 ge
  have E70_o := E22_o.wr W70
  have F70_resources := F22_resources.other W70 (Or.inr (slot_ne (Or.inr (hw _ (List.mem_of_getElem? (i := 19) rfl))) (Or.inr (hw _ (List.mem_of_getElem? (i := 27) rfl))) (by decide) (t := (.array .int)) (t' := .long) (by decide) (by decide)))
  have F70_titleCounts := F22_titleCounts.other W70 (Or.inr (slot_ne (Or.inr (hw _ (List.mem_of_getElem? (i := 21) rfl))) (Or.inr (hw _ (List.mem_of_getElem? (i := 27) rfl))) (by decide) (t := (.array .int)) (t' := .long) (by decide) (by decide)))
  have F70_contentCounts := F22_contentCounts.other W70 (Or.inr (slot_ne (Or.inr (hw _ (List.mem_of_getElem? (i := 23) rfl))) (Or.inr (hw _ (List.mem_of_getElem? (i := 27) rfl))) (by decide) (t := (.array .int)) (t' := .long) (by decide) (by decide)))
  have F70_inStructure := F22_inStructure.other W70 (Or.inr (slot_ne (Or.inr (hw _ (List.mem_of_getElem? (i := 25) rfl))) (Or.inr (hw _ (List.mem_of_getElem? (i := 27) rfl))) (by decide) (t := (.array .boolean)) (t' := .long) (by decide) (by decide)))
  have F70_collectionCount := F22_collectionCount.same W70
  have K70 : Keep h0 h70 [o1] := K22.wr W70 (Or.inl (List.mem_of_getElem? (i := 0) rfl))
  show own_Go p e below _ T70 (mkF m 73 #[.val (.ref o1), .val (.ref r1), .val (.ref t1), .val (.ref c1), .val (.ref s1), .val (.long (((0 : Int64) + ((0 : Int32).toInt64)) + ((0 : Int32).toInt64))), .second, .val (.ref c1), .val (.int (2 : Int32)), .val (.int (2 : Int32)), .val (.int (0 : Int32))] [])
  refine own_retV X70 hx hlk hret (hb hby din2_73) ?_ (by decide) (by decide)
  rw [e70]
  exact ⟨rfl, N70, K70, E70_o, F70_resources⟩
theorem dbz3_0 : decode jdk_65_method_59_code 0 = .ok (.iload_n 1, 1) := by decide +kernel
theorem dbz3_1 : decode jdk_65_method_59_code 1 = .ok (.istore 4, 2) := by decide +kernel
theorem dbz3_3 : decode jdk_65_method_59_code 3 = .ok (.iload_n 2, 1) := by decide +kernel
theorem dbz3_4 : decode jdk_65_method_59_code 4 = .ok (.iconst 1, 1) := by decide +kernel
theorem dbz3_5 : decode jdk_65_method_59_code 5 = .ok (.isub, 1) := by decide +kernel
theorem dbz3_6 : decode jdk_65_method_59_code 6 = .ok (.istore 5, 2) := by decide +kernel
theorem dbz3_8 : decode jdk_65_method_59_code 8 = .ok (.iload 4, 2) := by decide +kernel
theorem dbz3_10 : decode jdk_65_method_59_code 10 = .ok (.iload 5, 2) := by decide +kernel
theorem dbz3_12 : decode jdk_65_method_59_code 12 = .ok (.if_icmp .gt 54, 3) := by decide +kernel
theorem dbz3_15 : decode jdk_65_method_59_code 15 = .ok (.iload 4, 2) := by decide +kernel
theorem dbz3_17 : decode jdk_65_method_59_code 17 = .ok (.iload 5, 2) := by decide +kernel
theorem dbz3_19 : decode jdk_65_method_59_code 19 = .ok (.iadd, 1) := by decide +kernel
theorem dbz3_20 : decode jdk_65_method_59_code 20 = .ok (.iconst 1, 1) := by decide +kernel
theorem dbz3_21 : decode jdk_65_method_59_code 21 = .ok (.iushr, 1) := by decide +kernel
theorem dbz3_22 : decode jdk_65_method_59_code 22 = .ok (.istore 6, 2) := by decide +kernel
theorem dbz3_24 : decode jdk_65_method_59_code 24 = .ok (.aload_n 0, 1) := by decide +kernel
theorem dbz3_25 : decode jdk_65_method_59_code 25 = .ok (.iload 6, 2) := by decide +kernel
theorem dbz3_27 : decode jdk_65_method_59_code 27 = .ok (.iaload, 1) := by decide +kernel
theorem dbz3_28 : decode jdk_65_method_59_code 28 = .ok (.istore 7, 2) := by decide +kernel
theorem dbz3_30 : decode jdk_65_method_59_code 30 = .ok (.iload 7, 2) := by decide +kernel
theorem dbz3_32 : decode jdk_65_method_59_code 32 = .ok (.iload_n 3, 1) := by decide +kernel
theorem dbz3_33 : decode jdk_65_method_59_code 33 = .ok (.if_icmp .ge 12, 3) := by decide +kernel
theorem dbz3_36 : decode jdk_65_method_59_code 36 = .ok (.iload 6, 2) := by decide +kernel
theorem dbz3_38 : decode jdk_65_method_59_code 38 = .ok (.iconst 1, 1) := by decide +kernel
theorem dbz3_39 : decode jdk_65_method_59_code 39 = .ok (.iadd, 1) := by decide +kernel
theorem dbz3_40 : decode jdk_65_method_59_code 40 = .ok (.istore 4, 2) := by decide +kernel
theorem dbz3_42 : decode jdk_65_method_59_code 42 = .ok (.goto 21, 3) := by decide +kernel
theorem dbz3_45 : decode jdk_65_method_59_code 45 = .ok (.iload 7, 2) := by decide +kernel
theorem dbz3_47 : decode jdk_65_method_59_code 47 = .ok (.iload_n 3, 1) := by decide +kernel
theorem dbz3_48 : decode jdk_65_method_59_code 48 = .ok (.if_icmp .le 12, 3) := by decide +kernel
theorem dbz3_51 : decode jdk_65_method_59_code 51 = .ok (.iload 6, 2) := by decide +kernel
theorem dbz3_53 : decode jdk_65_method_59_code 53 = .ok (.iconst 1, 1) := by decide +kernel
theorem dbz3_54 : decode jdk_65_method_59_code 54 = .ok (.isub, 1) := by decide +kernel
theorem dbz3_55 : decode jdk_65_method_59_code 55 = .ok (.istore 5, 2) := by decide +kernel
theorem dbz3_57 : decode jdk_65_method_59_code 57 = .ok (.goto 6, 3) := by decide +kernel
theorem dbz3_60 : decode jdk_65_method_59_code 60 = .ok (.iload 6, 2) := by decide +kernel
theorem dbz3_62 : decode jdk_65_method_59_code 62 = .ok (.ireturn, 1) := by decide +kernel
theorem dbz3_63 : decode jdk_65_method_59_code 63 = .ok (.goto (-55), 3) := by decide +kernel
theorem dbz3_66 : decode jdk_65_method_59_code 66 = .ok (.iload 4, 2) := by decide +kernel
theorem dbz3_68 : decode jdk_65_method_59_code 68 = .ok (.iconst 1, 1) := by decide +kernel
theorem dbz3_69 : decode jdk_65_method_59_code 69 = .ok (.iadd, 1) := by decide +kernel
theorem dbz3_70 : decode jdk_65_method_59_code 70 = .ok (.ineg, 1) := by decide +kernel
theorem dbz3_71 : decode jdk_65_method_59_code 71 = .ok (.ireturn, 1) := by decide +kernel
theorem efbz3 (m : MethodId) (x0 : Addr) (x1 : Int32) (x2 : Int32) (x3 : Int32) : entryFrame m #[(.ref x0), (.int x1), (.int x2), (.int x3)] 8 = mkF m 0 #[.val (.ref x0), .val (.int x1), .val (.int x2), .val (.int x3), .unset, .unset, .unset, .unset] [] := by first | (simp [entryFrame, mkF, argsToLocals, Value.category]; done) | rfl
set_option maxRecDepth 65536 in
set_option maxHeartbeats 40000000 in
theorem rm_bsz3 (l : Launch) (Z : State) (a0 : Array Value) (hw : ∀ d ∈ tables_1, d.before a0 Z = true) (ws : List Jvm.Cond) (a1 : Addr) (kk : ClassId) (x0 : Int32) (x1 : Int32) (x2 : Int32) (key : Int32) (h0 : Heap) (n0 : Nat) (Z0 : n0 ≤ h0.size) (V1 : Arv Z h0 a1 kk .int (3 : Int32) [(.int x0), (.int x1), (.int x2)] (.int (0 : Int32))) (h01 : x0 < x1) (h12 : x1 < x2) :
    own_Met l Z ws (⟨"java/util/Arrays", "binarySearch0", "([IIII)I"⟩ : MethodName) jdk_65_method_59_code 8 (some .int) ({ frames := 0, cells := 0, slots := 0, locals := 0 } : Room) #[(.ref a1), (.int (0 : Int32)), (.int (3 : Int32)), (.int key)] h0 (fun v h L => ∃ r : Int32, v = some (.int r) ∧ ((r = 0 ∧ key = x0) ∨ (r = 1 ∧ key = x1) ∨ (r = 2 ∧ key = x2) ∨ (r < 0 ∧ ¬ key = x0 ∧ ¬ key = x1 ∧ ¬ key = x2)) ∧ Fr n0 L ∧ h = h0) := by
  refine own_body (plainFor_of_name pn_0) ?_
  intro p e s m below meth c s₁ hx hby hml hret hlk hown hnm hZ X0 e0
  have hml : c.maxLocals = 8 := hml
  have hown : s.vm.findClass "java/util/Arrays" = some m.cls := hown
  have N0 := Fr.nil n0
  refine own_cast (efbz3 m a1 (0 : Int32) (3 : Int32) key) ?_
  show own_Go p e below _ s₁ (mkF m 0 #[.val (.ref a1), .val (.int (0 : Int32)), .val (.int (3 : Int32)), .val (.int key), .unset, .unset, .unset, .unset] [])
  refine own_st (fun t k => XS.iloadN X0.here hx rfl (hb hby dbz3_0) rfl  k) ?_
  show own_Go p e below _ s₁ (mkF m 1 #[.val (.ref a1), .val (.int (0 : Int32)), .val (.int (3 : Int32)), .val (.int key), .unset, .unset, .unset, .unset] [(.int (0 : Int32))])
  refine own_st (fun t k => XS.istore X0.here hx rfl (hb hby dbz3_1) rfl (l' := #[.val (.ref a1), .val (.int (0 : Int32)), .val (.int (3 : Int32)), .val (.int key), .val (.int (0 : Int32)), .unset, .unset, .unset]) rfl k) ?_
  show own_Go p e below _ s₁ (mkF m 3 #[.val (.ref a1), .val (.int (0 : Int32)), .val (.int (3 : Int32)), .val (.int key), .val (.int (0 : Int32)), .unset, .unset, .unset] [])
  refine own_st (fun t k => XS.iloadN X0.here hx rfl (hb hby dbz3_3) rfl  k) ?_
  show own_Go p e below _ s₁ (mkF m 4 #[.val (.ref a1), .val (.int (0 : Int32)), .val (.int (3 : Int32)), .val (.int key), .val (.int (0 : Int32)), .unset, .unset, .unset] [(.int (3 : Int32))])
  refine own_st (fun t k => XS.iconst X0.here hx rfl (hb hby dbz3_4) k) ?_
  show own_Go p e below _ s₁ (mkF m 5 #[.val (.ref a1), .val (.int (0 : Int32)), .val (.int (3 : Int32)), .val (.int key), .val (.int (0 : Int32)), .unset, .unset, .unset] [(.int (1 : Int32)), (.int (3 : Int32))])
  refine own_st (fun t k => XS.isub X0.here hx rfl (hb hby dbz3_5) rfl k) ?_
  show own_Go p e below _ s₁ (mkF m 6 #[.val (.ref a1), .val (.int (0 : Int32)), .val (.int (3 : Int32)), .val (.int key), .val (.int (0 : Int32)), .unset, .unset, .unset] [(.int ((3 : Int32) - (1 : Int32)))])
  show own_Go p e below _ s₁ (mkF m 6 #[.val (.ref a1), .val (.int (0 : Int32)), .val (.int (3 : Int32)), .val (.int key), .val (.int (0 : Int32)), .unset, .unset, .unset] [(.int (2 : Int32))])
  refine own_st (fun t k => XS.istore X0.here hx rfl (hb hby dbz3_6) rfl (l' := #[.val (.ref a1), .val (.int (0 : Int32)), .val (.int (3 : Int32)), .val (.int key), .val (.int (0 : Int32)), .val (.int (2 : Int32)), .unset, .unset]) rfl k) ?_
  show own_Go p e below _ s₁ (mkF m 8 #[.val (.ref a1), .val (.int (0 : Int32)), .val (.int (3 : Int32)), .val (.int key), .val (.int (0 : Int32)), .val (.int (2 : Int32)), .unset, .unset] [])
  refine own_st (fun t k => XS.iload X0.here hx rfl (hb hby dbz3_8) rfl  k) ?_
  show own_Go p e below _ s₁ (mkF m 10 #[.val (.ref a1), .val (.int (0 : Int32)), .val (.int (3 : Int32)), .val (.int key), .val (.int (0 : Int32)), .val (.int (2 : Int32)), .unset, .unset] [(.int (0 : Int32))])
  refine own_st (fun t k => XS.iload X0.here hx rfl (hb hby dbz3_10) rfl  k) ?_
  show own_Go p e below _ s₁ (mkF m 12 #[.val (.ref a1), .val (.int (0 : Int32)), .val (.int (3 : Int32)), .val (.int key), .val (.int (0 : Int32)), .val (.int (2 : Int32)), .unset, .unset] [(.int (2 : Int32)), (.int (0 : Int32))])
  refine own_st (fun t k => XS.icmpNo X0.here hx rfl (hb hby dbz3_12) rfl (flt (by decide : ¬ (2 : Int32) < (0 : Int32))).2.2.1 k) ?_
  show own_Go p e below _ s₁ (mkF m 15 #[.val (.ref a1), .val (.int (0 : Int32)), .val (.int (3 : Int32)), .val (.int key), .val (.int (0 : Int32)), .val (.int (2 : Int32)), .unset, .unset] [])
  refine own_st (fun t k => XS.iload X0.here hx rfl (hb hby dbz3_15) rfl  k) ?_
  show own_Go p e below _ s₁ (mkF m 17 #[.val (.ref a1), .val (.int (0 : Int32)), .val (.int (3 : Int32)), .val (.int key), .val (.int (0 : Int32)), .val (.int (2 : Int32)), .unset, .unset] [(.int (0 : Int32))])
  refine own_st (fun t k => XS.iload X0.here hx rfl (hb hby dbz3_17) rfl  k) ?_
  show own_Go p e below _ s₁ (mkF m 19 #[.val (.ref a1), .val (.int (0 : Int32)), .val (.int (3 : Int32)), .val (.int key), .val (.int (0 : Int32)), .val (.int (2 : Int32)), .unset, .unset] [(.int (2 : Int32)), (.int (0 : Int32))])
  refine own_st (fun t k => XS.iadd X0.here hx rfl (hb hby dbz3_19) rfl k) ?_
  show own_Go p e below _ s₁ (mkF m 20 #[.val (.ref a1), .val (.int (0 : Int32)), .val (.int (3 : Int32)), .val (.int key), .val (.int (0 : Int32)), .val (.int (2 : Int32)), .unset, .unset] [(.int ((0 : Int32) + (2 : Int32)))])
  refine own_st (fun t k => XS.iconst X0.here hx rfl (hb hby dbz3_20) k) ?_
  show own_Go p e below _ s₁ (mkF m 21 #[.val (.ref a1), .val (.int (0 : Int32)), .val (.int (3 : Int32)), .val (.int key), .val (.int (0 : Int32)), .val (.int (2 : Int32)), .unset, .unset] [(.int (1 : Int32)), (.int ((0 : Int32) + (2 : Int32)))])
  refine own_st (fun t k => XS.iushr X0.here hx rfl (hb hby dbz3_21) rfl k) ?_
  show own_Go p e below _ s₁ (mkF m 22 #[.val (.ref a1), .val (.int (0 : Int32)), .val (.int (3 : Int32)), .val (.int key), .val (.int (0 : Int32)), .val (.int (2 : Int32)), .unset, .unset] [(.int ((((0 : Int32) + (2 : Int32)).toUInt32 >>> ((1 : Int32) &&& 31).toUInt32).toInt32))])
  rw [(by decide : ((((0 : Int32) + (2 : Int32)).toUInt32 >>> ((1 : Int32) &&& 31).toUInt32).toInt32) = (1 : Int32))]
  show own_Go p e below _ s₁ (mkF m 22 #[.val (.ref a1), .val (.int (0 : Int32)), .val (.int (3 : Int32)), .val (.int key), .val (.int (0 : Int32)), .val (.int (2 : Int32)), .unset, .unset] [(.int (1 : Int32))])
  refine own_st (fun t k => XS.istore X0.here hx rfl (hb hby dbz3_22) rfl (l' := #[.val (.ref a1), .val (.int (0 : Int32)), .val (.int (3 : Int32)), .val (.int key), .val (.int (0 : Int32)), .val (.int (2 : Int32)), .val (.int (1 : Int32)), .unset]) rfl k) ?_
  show own_Go p e below _ s₁ (mkF m 24 #[.val (.ref a1), .val (.int (0 : Int32)), .val (.int (3 : Int32)), .val (.int key), .val (.int (0 : Int32)), .val (.int (2 : Int32)), .val (.int (1 : Int32)), .unset] [])
  refine own_st (fun t k => XS.aloadN X0.here hx rfl (hb hby dbz3_24) rfl rfl k) ?_
  show own_Go p e below _ s₁ (mkF m 25 #[.val (.ref a1), .val (.int (0 : Int32)), .val (.int (3 : Int32)), .val (.int key), .val (.int (0 : Int32)), .val (.int (2 : Int32)), .val (.int (1 : Int32)), .unset] [(.ref a1)])
  refine own_st (fun t k => XS.iload X0.here hx rfl (hb hby dbz3_25) rfl  k) ?_
  show own_Go p e below _ s₁ (mkF m 27 #[.val (.ref a1), .val (.int (0 : Int32)), .val (.int (3 : Int32)), .val (.int key), .val (.int (0 : Int32)), .val (.int (2 : Int32)), .val (.int (1 : Int32)), .unset] [(.int (1 : Int32)), (.ref a1)])
  obtain ⟨cli1, Ari1, -, Si1, Mi1, Hi1, Gi1⟩ := id V1
  have hini1 : ¬ ((1 : Int32) < 0 ∨ cli1.slots.size ≤ ((1 : Int32)).toNatClampNeg) := inb_of Si1 ⟨by decide, by decide⟩
  refine own_st (X0.iaload hx (j := (1 : Int32)) (v := (.int x1)) (by rw [e0]; exact Ari1.1) (State.isArrayOf_alike hZ.alike Ari1.2.1) Ari1.2.2 hini1 (Has.at Hi1 hini1 rfl) (g := (mkF m 27 #[.val (.ref a1), .val (.int (0 : Int32)), .val (.int (3 : Int32)), .val (.int key), .val (.int (0 : Int32)), .val (.int (2 : Int32)), .val (.int (1 : Int32)), .unset] [(.int (1 : Int32)), (.ref a1)])) rfl rfl (hb hby dbz3_27)) ?_
  show own_Go p e below _ s₁ (mkF m 28 #[.val (.ref a1), .val (.int (0 : Int32)), .val (.int (3 : Int32)), .val (.int key), .val (.int (0 : Int32)), .val (.int (2 : Int32)), .val (.int (1 : Int32)), .unset] [(.int x1)])
  refine own_st (fun t k => XS.istore X0.here hx rfl (hb hby dbz3_28) rfl (l' := #[.val (.ref a1), .val (.int (0 : Int32)), .val (.int (3 : Int32)), .val (.int key), .val (.int (0 : Int32)), .val (.int (2 : Int32)), .val (.int (1 : Int32)), .val (.int x1)]) rfl k) ?_
  show own_Go p e below _ s₁ (mkF m 30 #[.val (.ref a1), .val (.int (0 : Int32)), .val (.int (3 : Int32)), .val (.int key), .val (.int (0 : Int32)), .val (.int (2 : Int32)), .val (.int (1 : Int32)), .val (.int x1)] [])
  refine own_st (fun t k => XS.iload X0.here hx rfl (hb hby dbz3_30) rfl  k) ?_
  show own_Go p e below _ s₁ (mkF m 32 #[.val (.ref a1), .val (.int (0 : Int32)), .val (.int (3 : Int32)), .val (.int key), .val (.int (0 : Int32)), .val (.int (2 : Int32)), .val (.int (1 : Int32)), .val (.int x1)] [(.int x1)])
  refine own_st (fun t k => XS.iloadN X0.here hx rfl (hb hby dbz3_32) rfl  k) ?_
  show own_Go p e below _ s₁ (mkF m 33 #[.val (.ref a1), .val (.int (0 : Int32)), .val (.int (3 : Int32)), .val (.int key), .val (.int (0 : Int32)), .val (.int (2 : Int32)), .val (.int (1 : Int32)), .val (.int x1)] [(.int key), (.int x1)])
  by_cases u1 : x1 < key
  · refine own_st (fun t k => XS.icmpNo X0.here hx rfl (hb hby dbz3_33) rfl (tlt u1).2.1 k) ?_
    show own_Go p e below _ s₁ (mkF m 36 #[.val (.ref a1), .val (.int (0 : Int32)), .val (.int (3 : Int32)), .val (.int key), .val (.int (0 : Int32)), .val (.int (2 : Int32)), .val (.int (1 : Int32)), .val (.int x1)] [])
    refine own_st (fun t k => XS.iload X0.here hx rfl (hb hby dbz3_36) rfl  k) ?_
    show own_Go p e below _ s₁ (mkF m 38 #[.val (.ref a1), .val (.int (0 : Int32)), .val (.int (3 : Int32)), .val (.int key), .val (.int (0 : Int32)), .val (.int (2 : Int32)), .val (.int (1 : Int32)), .val (.int x1)] [(.int (1 : Int32))])
    refine own_st (fun t k => XS.iconst X0.here hx rfl (hb hby dbz3_38) k) ?_
    show own_Go p e below _ s₁ (mkF m 39 #[.val (.ref a1), .val (.int (0 : Int32)), .val (.int (3 : Int32)), .val (.int key), .val (.int (0 : Int32)), .val (.int (2 : Int32)), .val (.int (1 : Int32)), .val (.int x1)] [(.int (1 : Int32)), (.int (1 : Int32))])
    refine own_st (fun t k => XS.iadd X0.here hx rfl (hb hby dbz3_39) rfl k) ?_
    show own_Go p e below _ s₁ (mkF m 40 #[.val (.ref a1), .val (.int (0 : Int32)), .val (.int (3 : Int32)), .val (.int key), .val (.int (0 : Int32)), .val (.int (2 : Int32)), .val (.int (1 : Int32)), .val (.int x1)] [(.int ((1 : Int32) + (1 : Int32)))])
    show own_Go p e below _ s₁ (mkF m 40 #[.val (.ref a1), .val (.int (0 : Int32)), .val (.int (3 : Int32)), .val (.int key), .val (.int (0 : Int32)), .val (.int (2 : Int32)), .val (.int (1 : Int32)), .val (.int x1)] [(.int (2 : Int32))])
    refine own_st (fun t k => XS.istore X0.here hx rfl (hb hby dbz3_40) rfl (l' := #[.val (.ref a1), .val (.int (0 : Int32)), .val (.int (3 : Int32)), .val (.int key), .val (.int (2 : Int32)), .val (.int (2 : Int32)), .val (.int (1 : Int32)), .val (.int x1)]) rfl k) ?_
    show own_Go p e below _ s₁ (mkF m 42 #[.val (.ref a1), .val (.int (0 : Int32)), .val (.int (3 : Int32)), .val (.int key), .val (.int (2 : Int32)), .val (.int (2 : Int32)), .val (.int (1 : Int32)), .val (.int x1)] [])
    refine own_st (fun t k => XS.goto X0.here hx rfl (pc0 := 42) (pc' := 63) rfl (hb hby dbz3_42) (by decide) (by decide) k) ?_
    show own_Go p e below _ s₁ (mkF m 63 #[.val (.ref a1), .val (.int (0 : Int32)), .val (.int (3 : Int32)), .val (.int key), .val (.int (2 : Int32)), .val (.int (2 : Int32)), .val (.int (1 : Int32)), .val (.int x1)] [])
    refine own_st (fun t k => XS.goto X0.here hx rfl (pc0 := 63) (pc' := 8) rfl (hb hby dbz3_63) (by decide) (by decide) k) ?_
    show own_Go p e below _ s₁ (mkF m 8 #[.val (.ref a1), .val (.int (0 : Int32)), .val (.int (3 : Int32)), .val (.int key), .val (.int (2 : Int32)), .val (.int (2 : Int32)), .val (.int (1 : Int32)), .val (.int x1)] [])
    refine own_st (fun t k => XS.iload X0.here hx rfl (hb hby dbz3_8) rfl  k) ?_
    show own_Go p e below _ s₁ (mkF m 10 #[.val (.ref a1), .val (.int (0 : Int32)), .val (.int (3 : Int32)), .val (.int key), .val (.int (2 : Int32)), .val (.int (2 : Int32)), .val (.int (1 : Int32)), .val (.int x1)] [(.int (2 : Int32))])
    refine own_st (fun t k => XS.iload X0.here hx rfl (hb hby dbz3_10) rfl  k) ?_
    show own_Go p e below _ s₁ (mkF m 12 #[.val (.ref a1), .val (.int (0 : Int32)), .val (.int (3 : Int32)), .val (.int key), .val (.int (2 : Int32)), .val (.int (2 : Int32)), .val (.int (1 : Int32)), .val (.int x1)] [(.int (2 : Int32)), (.int (2 : Int32))])
    refine own_st (fun t k => XS.icmpNo X0.here hx rfl (hb hby dbz3_12) rfl (flt (by decide : ¬ (2 : Int32) < (2 : Int32))).2.2.1 k) ?_
    show own_Go p e below _ s₁ (mkF m 15 #[.val (.ref a1), .val (.int (0 : Int32)), .val (.int (3 : Int32)), .val (.int key), .val (.int (2 : Int32)), .val (.int (2 : Int32)), .val (.int (1 : Int32)), .val (.int x1)] [])
    refine own_st (fun t k => XS.iload X0.here hx rfl (hb hby dbz3_15) rfl  k) ?_
    show own_Go p e below _ s₁ (mkF m 17 #[.val (.ref a1), .val (.int (0 : Int32)), .val (.int (3 : Int32)), .val (.int key), .val (.int (2 : Int32)), .val (.int (2 : Int32)), .val (.int (1 : Int32)), .val (.int x1)] [(.int (2 : Int32))])
    refine own_st (fun t k => XS.iload X0.here hx rfl (hb hby dbz3_17) rfl  k) ?_
    show own_Go p e below _ s₁ (mkF m 19 #[.val (.ref a1), .val (.int (0 : Int32)), .val (.int (3 : Int32)), .val (.int key), .val (.int (2 : Int32)), .val (.int (2 : Int32)), .val (.int (1 : Int32)), .val (.int x1)] [(.int (2 : Int32)), (.int (2 : Int32))])
    refine own_st (fun t k => XS.iadd X0.here hx rfl (hb hby dbz3_19) rfl k) ?_
    show own_Go p e below _ s₁ (mkF m 20 #[.val (.ref a1), .val (.int (0 : Int32)), .val (.int (3 : Int32)), .val (.int key), .val (.int (2 : Int32)), .val (.int (2 : Int32)), .val (.int (1 : Int32)), .val (.int x1)] [(.int ((2 : Int32) + (2 : Int32)))])
    refine own_st (fun t k => XS.iconst X0.here hx rfl (hb hby dbz3_20) k) ?_
    show own_Go p e below _ s₁ (mkF m 21 #[.val (.ref a1), .val (.int (0 : Int32)), .val (.int (3 : Int32)), .val (.int key), .val (.int (2 : Int32)), .val (.int (2 : Int32)), .val (.int (1 : Int32)), .val (.int x1)] [(.int (1 : Int32)), (.int ((2 : Int32) + (2 : Int32)))])
    refine own_st (fun t k => XS.iushr X0.here hx rfl (hb hby dbz3_21) rfl k) ?_
    show own_Go p e below _ s₁ (mkF m 22 #[.val (.ref a1), .val (.int (0 : Int32)), .val (.int (3 : Int32)), .val (.int key), .val (.int (2 : Int32)), .val (.int (2 : Int32)), .val (.int (1 : Int32)), .val (.int x1)] [(.int ((((2 : Int32) + (2 : Int32)).toUInt32 >>> ((1 : Int32) &&& 31).toUInt32).toInt32))])
    rw [(by decide : ((((2 : Int32) + (2 : Int32)).toUInt32 >>> ((1 : Int32) &&& 31).toUInt32).toInt32) = (2 : Int32))]
    show own_Go p e below _ s₁ (mkF m 22 #[.val (.ref a1), .val (.int (0 : Int32)), .val (.int (3 : Int32)), .val (.int key), .val (.int (2 : Int32)), .val (.int (2 : Int32)), .val (.int (1 : Int32)), .val (.int x1)] [(.int (2 : Int32))])
    refine own_st (fun t k => XS.istore X0.here hx rfl (hb hby dbz3_22) rfl (l' := #[.val (.ref a1), .val (.int (0 : Int32)), .val (.int (3 : Int32)), .val (.int key), .val (.int (2 : Int32)), .val (.int (2 : Int32)), .val (.int (2 : Int32)), .val (.int x1)]) rfl k) ?_
    show own_Go p e below _ s₁ (mkF m 24 #[.val (.ref a1), .val (.int (0 : Int32)), .val (.int (3 : Int32)), .val (.int key), .val (.int (2 : Int32)), .val (.int (2 : Int32)), .val (.int (2 : Int32)), .val (.int x1)] [])
    refine own_st (fun t k => XS.aloadN X0.here hx rfl (hb hby dbz3_24) rfl rfl k) ?_
    show own_Go p e below _ s₁ (mkF m 25 #[.val (.ref a1), .val (.int (0 : Int32)), .val (.int (3 : Int32)), .val (.int key), .val (.int (2 : Int32)), .val (.int (2 : Int32)), .val (.int (2 : Int32)), .val (.int x1)] [(.ref a1)])
    refine own_st (fun t k => XS.iload X0.here hx rfl (hb hby dbz3_25) rfl  k) ?_
    show own_Go p e below _ s₁ (mkF m 27 #[.val (.ref a1), .val (.int (0 : Int32)), .val (.int (3 : Int32)), .val (.int key), .val (.int (2 : Int32)), .val (.int (2 : Int32)), .val (.int (2 : Int32)), .val (.int x1)] [(.int (2 : Int32)), (.ref a1)])
    obtain ⟨cli2, Ari2, -, Si2, Mi2, Hi2, Gi2⟩ := id V1
    have hini2 : ¬ ((2 : Int32) < 0 ∨ cli2.slots.size ≤ ((2 : Int32)).toNatClampNeg) := inb_of Si2 ⟨by decide, by decide⟩
    refine own_st (X0.iaload hx (j := (2 : Int32)) (v := (.int x2)) (by rw [e0]; exact Ari2.1) (State.isArrayOf_alike hZ.alike Ari2.2.1) Ari2.2.2 hini2 (Has.at Hi2 hini2 rfl) (g := (mkF m 27 #[.val (.ref a1), .val (.int (0 : Int32)), .val (.int (3 : Int32)), .val (.int key), .val (.int (2 : Int32)), .val (.int (2 : Int32)), .val (.int (2 : Int32)), .val (.int x1)] [(.int (2 : Int32)), (.ref a1)])) rfl rfl (hb hby dbz3_27)) ?_
    show own_Go p e below _ s₁ (mkF m 28 #[.val (.ref a1), .val (.int (0 : Int32)), .val (.int (3 : Int32)), .val (.int key), .val (.int (2 : Int32)), .val (.int (2 : Int32)), .val (.int (2 : Int32)), .val (.int x1)] [(.int x2)])
    refine own_st (fun t k => XS.istore X0.here hx rfl (hb hby dbz3_28) rfl (l' := #[.val (.ref a1), .val (.int (0 : Int32)), .val (.int (3 : Int32)), .val (.int key), .val (.int (2 : Int32)), .val (.int (2 : Int32)), .val (.int (2 : Int32)), .val (.int x2)]) rfl k) ?_
    show own_Go p e below _ s₁ (mkF m 30 #[.val (.ref a1), .val (.int (0 : Int32)), .val (.int (3 : Int32)), .val (.int key), .val (.int (2 : Int32)), .val (.int (2 : Int32)), .val (.int (2 : Int32)), .val (.int x2)] [])
    refine own_st (fun t k => XS.iload X0.here hx rfl (hb hby dbz3_30) rfl  k) ?_
    show own_Go p e below _ s₁ (mkF m 32 #[.val (.ref a1), .val (.int (0 : Int32)), .val (.int (3 : Int32)), .val (.int key), .val (.int (2 : Int32)), .val (.int (2 : Int32)), .val (.int (2 : Int32)), .val (.int x2)] [(.int x2)])
    refine own_st (fun t k => XS.iloadN X0.here hx rfl (hb hby dbz3_32) rfl  k) ?_
    show own_Go p e below _ s₁ (mkF m 33 #[.val (.ref a1), .val (.int (0 : Int32)), .val (.int (3 : Int32)), .val (.int key), .val (.int (2 : Int32)), .val (.int (2 : Int32)), .val (.int (2 : Int32)), .val (.int x2)] [(.int key), (.int x2)])
    by_cases u2 : x2 < key
    · refine own_st (fun t k => XS.icmpNo X0.here hx rfl (hb hby dbz3_33) rfl (tlt u2).2.1 k) ?_
      show own_Go p e below _ s₁ (mkF m 36 #[.val (.ref a1), .val (.int (0 : Int32)), .val (.int (3 : Int32)), .val (.int key), .val (.int (2 : Int32)), .val (.int (2 : Int32)), .val (.int (2 : Int32)), .val (.int x2)] [])
      refine own_st (fun t k => XS.iload X0.here hx rfl (hb hby dbz3_36) rfl  k) ?_
      show own_Go p e below _ s₁ (mkF m 38 #[.val (.ref a1), .val (.int (0 : Int32)), .val (.int (3 : Int32)), .val (.int key), .val (.int (2 : Int32)), .val (.int (2 : Int32)), .val (.int (2 : Int32)), .val (.int x2)] [(.int (2 : Int32))])
      refine own_st (fun t k => XS.iconst X0.here hx rfl (hb hby dbz3_38) k) ?_
      show own_Go p e below _ s₁ (mkF m 39 #[.val (.ref a1), .val (.int (0 : Int32)), .val (.int (3 : Int32)), .val (.int key), .val (.int (2 : Int32)), .val (.int (2 : Int32)), .val (.int (2 : Int32)), .val (.int x2)] [(.int (1 : Int32)), (.int (2 : Int32))])
      refine own_st (fun t k => XS.iadd X0.here hx rfl (hb hby dbz3_39) rfl k) ?_
      show own_Go p e below _ s₁ (mkF m 40 #[.val (.ref a1), .val (.int (0 : Int32)), .val (.int (3 : Int32)), .val (.int key), .val (.int (2 : Int32)), .val (.int (2 : Int32)), .val (.int (2 : Int32)), .val (.int x2)] [(.int ((2 : Int32) + (1 : Int32)))])
      show own_Go p e below _ s₁ (mkF m 40 #[.val (.ref a1), .val (.int (0 : Int32)), .val (.int (3 : Int32)), .val (.int key), .val (.int (2 : Int32)), .val (.int (2 : Int32)), .val (.int (2 : Int32)), .val (.int x2)] [(.int (3 : Int32))])
      refine own_st (fun t k => XS.istore X0.here hx rfl (hb hby dbz3_40) rfl (l' := #[.val (.ref a1), .val (.int (0 : Int32)), .val (.int (3 : Int32)), .val (.int key), .val (.int (3 : Int32)), .val (.int (2 : Int32)), .val (.int (2 : Int32)), .val (.int x2)]) rfl k) ?_
      show own_Go p e below _ s₁ (mkF m 42 #[.val (.ref a1), .val (.int (0 : Int32)), .val (.int (3 : Int32)), .val (.int key), .val (.int (3 : Int32)), .val (.int (2 : Int32)), .val (.int (2 : Int32)), .val (.int x2)] [])
      refine own_st (fun t k => XS.goto X0.here hx rfl (pc0 := 42) (pc' := 63) rfl (hb hby dbz3_42) (by decide) (by decide) k) ?_
      show own_Go p e below _ s₁ (mkF m 63 #[.val (.ref a1), .val (.int (0 : Int32)), .val (.int (3 : Int32)), .val (.int key), .val (.int (3 : Int32)), .val (.int (2 : Int32)), .val (.int (2 : Int32)), .val (.int x2)] [])
      refine own_st (fun t k => XS.goto X0.here hx rfl (pc0 := 63) (pc' := 8) rfl (hb hby dbz3_63) (by decide) (by decide) k) ?_
      show own_Go p e below _ s₁ (mkF m 8 #[.val (.ref a1), .val (.int (0 : Int32)), .val (.int (3 : Int32)), .val (.int key), .val (.int (3 : Int32)), .val (.int (2 : Int32)), .val (.int (2 : Int32)), .val (.int x2)] [])
      refine own_st (fun t k => XS.iload X0.here hx rfl (hb hby dbz3_8) rfl  k) ?_
      show own_Go p e below _ s₁ (mkF m 10 #[.val (.ref a1), .val (.int (0 : Int32)), .val (.int (3 : Int32)), .val (.int key), .val (.int (3 : Int32)), .val (.int (2 : Int32)), .val (.int (2 : Int32)), .val (.int x2)] [(.int (3 : Int32))])
      refine own_st (fun t k => XS.iload X0.here hx rfl (hb hby dbz3_10) rfl  k) ?_
      show own_Go p e below _ s₁ (mkF m 12 #[.val (.ref a1), .val (.int (0 : Int32)), .val (.int (3 : Int32)), .val (.int key), .val (.int (3 : Int32)), .val (.int (2 : Int32)), .val (.int (2 : Int32)), .val (.int x2)] [(.int (2 : Int32)), (.int (3 : Int32))])
      refine own_st (fun t k => XS.icmpYes X0.here hx rfl (pc0 := 12) (pc' := 66) rfl (hb hby dbz3_12) rfl (tlt (by decide : (2 : Int32) < (3 : Int32))).2.2.1 (by decide) (by decide) k) ?_
      show own_Go p e below _ s₁ (mkF m 66 #[.val (.ref a1), .val (.int (0 : Int32)), .val (.int (3 : Int32)), .val (.int key), .val (.int (3 : Int32)), .val (.int (2 : Int32)), .val (.int (2 : Int32)), .val (.int x2)] [])
      refine own_st (fun t k => XS.iload X0.here hx rfl (hb hby dbz3_66) rfl  k) ?_
      show own_Go p e below _ s₁ (mkF m 68 #[.val (.ref a1), .val (.int (0 : Int32)), .val (.int (3 : Int32)), .val (.int key), .val (.int (3 : Int32)), .val (.int (2 : Int32)), .val (.int (2 : Int32)), .val (.int x2)] [(.int (3 : Int32))])
      refine own_st (fun t k => XS.iconst X0.here hx rfl (hb hby dbz3_68) k) ?_
      show own_Go p e below _ s₁ (mkF m 69 #[.val (.ref a1), .val (.int (0 : Int32)), .val (.int (3 : Int32)), .val (.int key), .val (.int (3 : Int32)), .val (.int (2 : Int32)), .val (.int (2 : Int32)), .val (.int x2)] [(.int (1 : Int32)), (.int (3 : Int32))])
      refine own_st (fun t k => XS.iadd X0.here hx rfl (hb hby dbz3_69) rfl k) ?_
      show own_Go p e below _ s₁ (mkF m 70 #[.val (.ref a1), .val (.int (0 : Int32)), .val (.int (3 : Int32)), .val (.int key), .val (.int (3 : Int32)), .val (.int (2 : Int32)), .val (.int (2 : Int32)), .val (.int x2)] [(.int ((3 : Int32) + (1 : Int32)))])
      refine own_st (fun t k => XS.ineg X0.here hx rfl (hb hby dbz3_70) rfl k) ?_
      show own_Go p e below _ s₁ (mkF m 71 #[.val (.ref a1), .val (.int (0 : Int32)), .val (.int (3 : Int32)), .val (.int key), .val (.int (3 : Int32)), .val (.int (2 : Int32)), .val (.int (2 : Int32)), .val (.int x2)] [(.int (-((3 : Int32) + (1 : Int32))))])
      refine own_retI X0 hx hlk hret (hb hby dbz3_71) ?_ (by decide) (by decide)
      rw [e0]
      exact ⟨_, rfl, (Or.inr (Or.inr (Or.inr (⟨by decide, (by simp only [Int32.lt_iff_toInt_lt, ← Int32.toInt_inj] at u1 u2 h01 h12 ⊢; omega), (by simp only [Int32.lt_iff_toInt_lt, ← Int32.toInt_inj] at u1 u2 h01 h12 ⊢; omega), (by simp only [Int32.lt_iff_toInt_lt, ← Int32.toInt_inj] at u1 u2 h01 h12 ⊢; omega)⟩)))), N0, rfl⟩
    · refine own_st (fun t k => XS.icmpYes X0.here hx rfl (pc0 := 33) (pc' := 45) rfl (hb hby dbz3_33) rfl (flt u2).2.1 (by decide) (by decide) k) ?_
      show own_Go p e below _ s₁ (mkF m 45 #[.val (.ref a1), .val (.int (0 : Int32)), .val (.int (3 : Int32)), .val (.int key), .val (.int (2 : Int32)), .val (.int (2 : Int32)), .val (.int (2 : Int32)), .val (.int x2)] [])
      refine own_st (fun t k => XS.iload X0.here hx rfl (hb hby dbz3_45) rfl  k) ?_
      show own_Go p e below _ s₁ (mkF m 47 #[.val (.ref a1), .val (.int (0 : Int32)), .val (.int (3 : Int32)), .val (.int key), .val (.int (2 : Int32)), .val (.int (2 : Int32)), .val (.int (2 : Int32)), .val (.int x2)] [(.int x2)])
      refine own_st (fun t k => XS.iloadN X0.here hx rfl (hb hby dbz3_47) rfl  k) ?_
      show own_Go p e below _ s₁ (mkF m 48 #[.val (.ref a1), .val (.int (0 : Int32)), .val (.int (3 : Int32)), .val (.int key), .val (.int (2 : Int32)), .val (.int (2 : Int32)), .val (.int (2 : Int32)), .val (.int x2)] [(.int key), (.int x2)])
      by_cases v2 : key < x2
      · refine own_st (fun t k => XS.icmpNo X0.here hx rfl (hb hby dbz3_48) rfl (tlt v2).2.2.2 k) ?_
        show own_Go p e below _ s₁ (mkF m 51 #[.val (.ref a1), .val (.int (0 : Int32)), .val (.int (3 : Int32)), .val (.int key), .val (.int (2 : Int32)), .val (.int (2 : Int32)), .val (.int (2 : Int32)), .val (.int x2)] [])
        refine own_st (fun t k => XS.iload X0.here hx rfl (hb hby dbz3_51) rfl  k) ?_
        show own_Go p e below _ s₁ (mkF m 53 #[.val (.ref a1), .val (.int (0 : Int32)), .val (.int (3 : Int32)), .val (.int key), .val (.int (2 : Int32)), .val (.int (2 : Int32)), .val (.int (2 : Int32)), .val (.int x2)] [(.int (2 : Int32))])
        refine own_st (fun t k => XS.iconst X0.here hx rfl (hb hby dbz3_53) k) ?_
        show own_Go p e below _ s₁ (mkF m 54 #[.val (.ref a1), .val (.int (0 : Int32)), .val (.int (3 : Int32)), .val (.int key), .val (.int (2 : Int32)), .val (.int (2 : Int32)), .val (.int (2 : Int32)), .val (.int x2)] [(.int (1 : Int32)), (.int (2 : Int32))])
        refine own_st (fun t k => XS.isub X0.here hx rfl (hb hby dbz3_54) rfl k) ?_
        show own_Go p e below _ s₁ (mkF m 55 #[.val (.ref a1), .val (.int (0 : Int32)), .val (.int (3 : Int32)), .val (.int key), .val (.int (2 : Int32)), .val (.int (2 : Int32)), .val (.int (2 : Int32)), .val (.int x2)] [(.int ((2 : Int32) - (1 : Int32)))])
        show own_Go p e below _ s₁ (mkF m 55 #[.val (.ref a1), .val (.int (0 : Int32)), .val (.int (3 : Int32)), .val (.int key), .val (.int (2 : Int32)), .val (.int (2 : Int32)), .val (.int (2 : Int32)), .val (.int x2)] [(.int (1 : Int32))])
        refine own_st (fun t k => XS.istore X0.here hx rfl (hb hby dbz3_55) rfl (l' := #[.val (.ref a1), .val (.int (0 : Int32)), .val (.int (3 : Int32)), .val (.int key), .val (.int (2 : Int32)), .val (.int (1 : Int32)), .val (.int (2 : Int32)), .val (.int x2)]) rfl k) ?_
        show own_Go p e below _ s₁ (mkF m 57 #[.val (.ref a1), .val (.int (0 : Int32)), .val (.int (3 : Int32)), .val (.int key), .val (.int (2 : Int32)), .val (.int (1 : Int32)), .val (.int (2 : Int32)), .val (.int x2)] [])
        refine own_st (fun t k => XS.goto X0.here hx rfl (pc0 := 57) (pc' := 63) rfl (hb hby dbz3_57) (by decide) (by decide) k) ?_
        show own_Go p e below _ s₁ (mkF m 63 #[.val (.ref a1), .val (.int (0 : Int32)), .val (.int (3 : Int32)), .val (.int key), .val (.int (2 : Int32)), .val (.int (1 : Int32)), .val (.int (2 : Int32)), .val (.int x2)] [])
        refine own_st (fun t k => XS.goto X0.here hx rfl (pc0 := 63) (pc' := 8) rfl (hb hby dbz3_63) (by decide) (by decide) k) ?_
        show own_Go p e below _ s₁ (mkF m 8 #[.val (.ref a1), .val (.int (0 : Int32)), .val (.int (3 : Int32)), .val (.int key), .val (.int (2 : Int32)), .val (.int (1 : Int32)), .val (.int (2 : Int32)), .val (.int x2)] [])
        refine own_st (fun t k => XS.iload X0.here hx rfl (hb hby dbz3_8) rfl  k) ?_
        show own_Go p e below _ s₁ (mkF m 10 #[.val (.ref a1), .val (.int (0 : Int32)), .val (.int (3 : Int32)), .val (.int key), .val (.int (2 : Int32)), .val (.int (1 : Int32)), .val (.int (2 : Int32)), .val (.int x2)] [(.int (2 : Int32))])
        refine own_st (fun t k => XS.iload X0.here hx rfl (hb hby dbz3_10) rfl  k) ?_
        show own_Go p e below _ s₁ (mkF m 12 #[.val (.ref a1), .val (.int (0 : Int32)), .val (.int (3 : Int32)), .val (.int key), .val (.int (2 : Int32)), .val (.int (1 : Int32)), .val (.int (2 : Int32)), .val (.int x2)] [(.int (1 : Int32)), (.int (2 : Int32))])
        refine own_st (fun t k => XS.icmpYes X0.here hx rfl (pc0 := 12) (pc' := 66) rfl (hb hby dbz3_12) rfl (tlt (by decide : (1 : Int32) < (2 : Int32))).2.2.1 (by decide) (by decide) k) ?_
        show own_Go p e below _ s₁ (mkF m 66 #[.val (.ref a1), .val (.int (0 : Int32)), .val (.int (3 : Int32)), .val (.int key), .val (.int (2 : Int32)), .val (.int (1 : Int32)), .val (.int (2 : Int32)), .val (.int x2)] [])
        refine own_st (fun t k => XS.iload X0.here hx rfl (hb hby dbz3_66) rfl  k) ?_
        show own_Go p e below _ s₁ (mkF m 68 #[.val (.ref a1), .val (.int (0 : Int32)), .val (.int (3 : Int32)), .val (.int key), .val (.int (2 : Int32)), .val (.int (1 : Int32)), .val (.int (2 : Int32)), .val (.int x2)] [(.int (2 : Int32))])
        refine own_st (fun t k => XS.iconst X0.here hx rfl (hb hby dbz3_68) k) ?_
        show own_Go p e below _ s₁ (mkF m 69 #[.val (.ref a1), .val (.int (0 : Int32)), .val (.int (3 : Int32)), .val (.int key), .val (.int (2 : Int32)), .val (.int (1 : Int32)), .val (.int (2 : Int32)), .val (.int x2)] [(.int (1 : Int32)), (.int (2 : Int32))])
        refine own_st (fun t k => XS.iadd X0.here hx rfl (hb hby dbz3_69) rfl k) ?_
        show own_Go p e below _ s₁ (mkF m 70 #[.val (.ref a1), .val (.int (0 : Int32)), .val (.int (3 : Int32)), .val (.int key), .val (.int (2 : Int32)), .val (.int (1 : Int32)), .val (.int (2 : Int32)), .val (.int x2)] [(.int ((2 : Int32) + (1 : Int32)))])
        refine own_st (fun t k => XS.ineg X0.here hx rfl (hb hby dbz3_70) rfl k) ?_
        show own_Go p e below _ s₁ (mkF m 71 #[.val (.ref a1), .val (.int (0 : Int32)), .val (.int (3 : Int32)), .val (.int key), .val (.int (2 : Int32)), .val (.int (1 : Int32)), .val (.int (2 : Int32)), .val (.int x2)] [(.int (-((2 : Int32) + (1 : Int32))))])
        refine own_retI X0 hx hlk hret (hb hby dbz3_71) ?_ (by decide) (by decide)
        rw [e0]
        exact ⟨_, rfl, (Or.inr (Or.inr (Or.inr (⟨by decide, (by simp only [Int32.lt_iff_toInt_lt, ← Int32.toInt_inj] at u1 v2 h01 h12 ⊢; omega), (by simp only [Int32.lt_iff_toInt_lt, ← Int32.toInt_inj] at u1 v2 h01 h12 ⊢; omega), (by simp only [Int32.lt_iff_toInt_lt, ← Int32.toInt_inj] at u1 v2 h01 h12 ⊢; omega)⟩)))), N0, rfl⟩
      · refine own_st (fun t k => XS.icmpYes X0.here hx rfl (pc0 := 48) (pc' := 60) rfl (hb hby dbz3_48) rfl (flt v2).2.2.2 (by decide) (by decide) k) ?_
        show own_Go p e below _ s₁ (mkF m 60 #[.val (.ref a1), .val (.int (0 : Int32)), .val (.int (3 : Int32)), .val (.int key), .val (.int (2 : Int32)), .val (.int (2 : Int32)), .val (.int (2 : Int32)), .val (.int x2)] [])
        refine own_st (fun t k => XS.iload X0.here hx rfl (hb hby dbz3_60) rfl  k) ?_
        show own_Go p e below _ s₁ (mkF m 62 #[.val (.ref a1), .val (.int (0 : Int32)), .val (.int (3 : Int32)), .val (.int key), .val (.int (2 : Int32)), .val (.int (2 : Int32)), .val (.int (2 : Int32)), .val (.int x2)] [(.int (2 : Int32))])
        refine own_retI X0 hx hlk hret (hb hby dbz3_62) ?_ (by decide) (by decide)
        rw [e0]
        exact ⟨_, rfl, (Or.inr (Or.inr (Or.inl ⟨rfl, (by simp only [Int32.lt_iff_toInt_lt, ← Int32.toInt_inj] at u2 v2 ⊢; omega)⟩))), N0, rfl⟩
  · refine own_st (fun t k => XS.icmpYes X0.here hx rfl (pc0 := 33) (pc' := 45) rfl (hb hby dbz3_33) rfl (flt u1).2.1 (by decide) (by decide) k) ?_
    show own_Go p e below _ s₁ (mkF m 45 #[.val (.ref a1), .val (.int (0 : Int32)), .val (.int (3 : Int32)), .val (.int key), .val (.int (0 : Int32)), .val (.int (2 : Int32)), .val (.int (1 : Int32)), .val (.int x1)] [])
    refine own_st (fun t k => XS.iload X0.here hx rfl (hb hby dbz3_45) rfl  k) ?_
    show own_Go p e below _ s₁ (mkF m 47 #[.val (.ref a1), .val (.int (0 : Int32)), .val (.int (3 : Int32)), .val (.int key), .val (.int (0 : Int32)), .val (.int (2 : Int32)), .val (.int (1 : Int32)), .val (.int x1)] [(.int x1)])
    refine own_st (fun t k => XS.iloadN X0.here hx rfl (hb hby dbz3_47) rfl  k) ?_
    show own_Go p e below _ s₁ (mkF m 48 #[.val (.ref a1), .val (.int (0 : Int32)), .val (.int (3 : Int32)), .val (.int key), .val (.int (0 : Int32)), .val (.int (2 : Int32)), .val (.int (1 : Int32)), .val (.int x1)] [(.int key), (.int x1)])
    by_cases v1 : key < x1
    · refine own_st (fun t k => XS.icmpNo X0.here hx rfl (hb hby dbz3_48) rfl (tlt v1).2.2.2 k) ?_
      show own_Go p e below _ s₁ (mkF m 51 #[.val (.ref a1), .val (.int (0 : Int32)), .val (.int (3 : Int32)), .val (.int key), .val (.int (0 : Int32)), .val (.int (2 : Int32)), .val (.int (1 : Int32)), .val (.int x1)] [])
      refine own_st (fun t k => XS.iload X0.here hx rfl (hb hby dbz3_51) rfl  k) ?_
      show own_Go p e below _ s₁ (mkF m 53 #[.val (.ref a1), .val (.int (0 : Int32)), .val (.int (3 : Int32)), .val (.int key), .val (.int (0 : Int32)), .val (.int (2 : Int32)), .val (.int (1 : Int32)), .val (.int x1)] [(.int (1 : Int32))])
      refine own_st (fun t k => XS.iconst X0.here hx rfl (hb hby dbz3_53) k) ?_
      show own_Go p e below _ s₁ (mkF m 54 #[.val (.ref a1), .val (.int (0 : Int32)), .val (.int (3 : Int32)), .val (.int key), .val (.int (0 : Int32)), .val (.int (2 : Int32)), .val (.int (1 : Int32)), .val (.int x1)] [(.int (1 : Int32)), (.int (1 : Int32))])
      refine own_st (fun t k => XS.isub X0.here hx rfl (hb hby dbz3_54) rfl k) ?_
      show own_Go p e below _ s₁ (mkF m 55 #[.val (.ref a1), .val (.int (0 : Int32)), .val (.int (3 : Int32)), .val (.int key), .val (.int (0 : Int32)), .val (.int (2 : Int32)), .val (.int (1 : Int32)), .val (.int x1)] [(.int ((1 : Int32) - (1 : Int32)))])
      show own_Go p e below _ s₁ (mkF m 55 #[.val (.ref a1), .val (.int (0 : Int32)), .val (.int (3 : Int32)), .val (.int key), .val (.int (0 : Int32)), .val (.int (2 : Int32)), .val (.int (1 : Int32)), .val (.int x1)] [(.int (0 : Int32))])
      refine own_st (fun t k => XS.istore X0.here hx rfl (hb hby dbz3_55) rfl (l' := #[.val (.ref a1), .val (.int (0 : Int32)), .val (.int (3 : Int32)), .val (.int key), .val (.int (0 : Int32)), .val (.int (0 : Int32)), .val (.int (1 : Int32)), .val (.int x1)]) rfl k) ?_
      show own_Go p e below _ s₁ (mkF m 57 #[.val (.ref a1), .val (.int (0 : Int32)), .val (.int (3 : Int32)), .val (.int key), .val (.int (0 : Int32)), .val (.int (0 : Int32)), .val (.int (1 : Int32)), .val (.int x1)] [])
      refine own_st (fun t k => XS.goto X0.here hx rfl (pc0 := 57) (pc' := 63) rfl (hb hby dbz3_57) (by decide) (by decide) k) ?_
      show own_Go p e below _ s₁ (mkF m 63 #[.val (.ref a1), .val (.int (0 : Int32)), .val (.int (3 : Int32)), .val (.int key), .val (.int (0 : Int32)), .val (.int (0 : Int32)), .val (.int (1 : Int32)), .val (.int x1)] [])
      refine own_st (fun t k => XS.goto X0.here hx rfl (pc0 := 63) (pc' := 8) rfl (hb hby dbz3_63) (by decide) (by decide) k) ?_
      show own_Go p e below _ s₁ (mkF m 8 #[.val (.ref a1), .val (.int (0 : Int32)), .val (.int (3 : Int32)), .val (.int key), .val (.int (0 : Int32)), .val (.int (0 : Int32)), .val (.int (1 : Int32)), .val (.int x1)] [])
      refine own_st (fun t k => XS.iload X0.here hx rfl (hb hby dbz3_8) rfl  k) ?_
      show own_Go p e below _ s₁ (mkF m 10 #[.val (.ref a1), .val (.int (0 : Int32)), .val (.int (3 : Int32)), .val (.int key), .val (.int (0 : Int32)), .val (.int (0 : Int32)), .val (.int (1 : Int32)), .val (.int x1)] [(.int (0 : Int32))])
      refine own_st (fun t k => XS.iload X0.here hx rfl (hb hby dbz3_10) rfl  k) ?_
      show own_Go p e below _ s₁ (mkF m 12 #[.val (.ref a1), .val (.int (0 : Int32)), .val (.int (3 : Int32)), .val (.int key), .val (.int (0 : Int32)), .val (.int (0 : Int32)), .val (.int (1 : Int32)), .val (.int x1)] [(.int (0 : Int32)), (.int (0 : Int32))])
      refine own_st (fun t k => XS.icmpNo X0.here hx rfl (hb hby dbz3_12) rfl (flt (by decide : ¬ (0 : Int32) < (0 : Int32))).2.2.1 k) ?_
      show own_Go p e below _ s₁ (mkF m 15 #[.val (.ref a1), .val (.int (0 : Int32)), .val (.int (3 : Int32)), .val (.int key), .val (.int (0 : Int32)), .val (.int (0 : Int32)), .val (.int (1 : Int32)), .val (.int x1)] [])
      refine own_st (fun t k => XS.iload X0.here hx rfl (hb hby dbz3_15) rfl  k) ?_
      show own_Go p e below _ s₁ (mkF m 17 #[.val (.ref a1), .val (.int (0 : Int32)), .val (.int (3 : Int32)), .val (.int key), .val (.int (0 : Int32)), .val (.int (0 : Int32)), .val (.int (1 : Int32)), .val (.int x1)] [(.int (0 : Int32))])
      refine own_st (fun t k => XS.iload X0.here hx rfl (hb hby dbz3_17) rfl  k) ?_
      show own_Go p e below _ s₁ (mkF m 19 #[.val (.ref a1), .val (.int (0 : Int32)), .val (.int (3 : Int32)), .val (.int key), .val (.int (0 : Int32)), .val (.int (0 : Int32)), .val (.int (1 : Int32)), .val (.int x1)] [(.int (0 : Int32)), (.int (0 : Int32))])
      refine own_st (fun t k => XS.iadd X0.here hx rfl (hb hby dbz3_19) rfl k) ?_
      show own_Go p e below _ s₁ (mkF m 20 #[.val (.ref a1), .val (.int (0 : Int32)), .val (.int (3 : Int32)), .val (.int key), .val (.int (0 : Int32)), .val (.int (0 : Int32)), .val (.int (1 : Int32)), .val (.int x1)] [(.int ((0 : Int32) + (0 : Int32)))])
      refine own_st (fun t k => XS.iconst X0.here hx rfl (hb hby dbz3_20) k) ?_
      show own_Go p e below _ s₁ (mkF m 21 #[.val (.ref a1), .val (.int (0 : Int32)), .val (.int (3 : Int32)), .val (.int key), .val (.int (0 : Int32)), .val (.int (0 : Int32)), .val (.int (1 : Int32)), .val (.int x1)] [(.int (1 : Int32)), (.int ((0 : Int32) + (0 : Int32)))])
      refine own_st (fun t k => XS.iushr X0.here hx rfl (hb hby dbz3_21) rfl k) ?_
      show own_Go p e below _ s₁ (mkF m 22 #[.val (.ref a1), .val (.int (0 : Int32)), .val (.int (3 : Int32)), .val (.int key), .val (.int (0 : Int32)), .val (.int (0 : Int32)), .val (.int (1 : Int32)), .val (.int x1)] [(.int ((((0 : Int32) + (0 : Int32)).toUInt32 >>> ((1 : Int32) &&& 31).toUInt32).toInt32))])
      rw [(by decide : ((((0 : Int32) + (0 : Int32)).toUInt32 >>> ((1 : Int32) &&& 31).toUInt32).toInt32) = (0 : Int32))]
      show own_Go p e below _ s₁ (mkF m 22 #[.val (.ref a1), .val (.int (0 : Int32)), .val (.int (3 : Int32)), .val (.int key), .val (.int (0 : Int32)), .val (.int (0 : Int32)), .val (.int (1 : Int32)), .val (.int x1)] [(.int (0 : Int32))])
      refine own_st (fun t k => XS.istore X0.here hx rfl (hb hby dbz3_22) rfl (l' := #[.val (.ref a1), .val (.int (0 : Int32)), .val (.int (3 : Int32)), .val (.int key), .val (.int (0 : Int32)), .val (.int (0 : Int32)), .val (.int (0 : Int32)), .val (.int x1)]) rfl k) ?_
      show own_Go p e below _ s₁ (mkF m 24 #[.val (.ref a1), .val (.int (0 : Int32)), .val (.int (3 : Int32)), .val (.int key), .val (.int (0 : Int32)), .val (.int (0 : Int32)), .val (.int (0 : Int32)), .val (.int x1)] [])
      refine own_st (fun t k => XS.aloadN X0.here hx rfl (hb hby dbz3_24) rfl rfl k) ?_
      show own_Go p e below _ s₁ (mkF m 25 #[.val (.ref a1), .val (.int (0 : Int32)), .val (.int (3 : Int32)), .val (.int key), .val (.int (0 : Int32)), .val (.int (0 : Int32)), .val (.int (0 : Int32)), .val (.int x1)] [(.ref a1)])
      refine own_st (fun t k => XS.iload X0.here hx rfl (hb hby dbz3_25) rfl  k) ?_
      show own_Go p e below _ s₁ (mkF m 27 #[.val (.ref a1), .val (.int (0 : Int32)), .val (.int (3 : Int32)), .val (.int key), .val (.int (0 : Int32)), .val (.int (0 : Int32)), .val (.int (0 : Int32)), .val (.int x1)] [(.int (0 : Int32)), (.ref a1)])
      obtain ⟨cli3, Ari3, -, Si3, Mi3, Hi3, Gi3⟩ := id V1
      have hini3 : ¬ ((0 : Int32) < 0 ∨ cli3.slots.size ≤ ((0 : Int32)).toNatClampNeg) := inb_of Si3 ⟨by decide, by decide⟩
      refine own_st (X0.iaload hx (j := (0 : Int32)) (v := (.int x0)) (by rw [e0]; exact Ari3.1) (State.isArrayOf_alike hZ.alike Ari3.2.1) Ari3.2.2 hini3 (Has.at Hi3 hini3 rfl) (g := (mkF m 27 #[.val (.ref a1), .val (.int (0 : Int32)), .val (.int (3 : Int32)), .val (.int key), .val (.int (0 : Int32)), .val (.int (0 : Int32)), .val (.int (0 : Int32)), .val (.int x1)] [(.int (0 : Int32)), (.ref a1)])) rfl rfl (hb hby dbz3_27)) ?_
      show own_Go p e below _ s₁ (mkF m 28 #[.val (.ref a1), .val (.int (0 : Int32)), .val (.int (3 : Int32)), .val (.int key), .val (.int (0 : Int32)), .val (.int (0 : Int32)), .val (.int (0 : Int32)), .val (.int x1)] [(.int x0)])
      refine own_st (fun t k => XS.istore X0.here hx rfl (hb hby dbz3_28) rfl (l' := #[.val (.ref a1), .val (.int (0 : Int32)), .val (.int (3 : Int32)), .val (.int key), .val (.int (0 : Int32)), .val (.int (0 : Int32)), .val (.int (0 : Int32)), .val (.int x0)]) rfl k) ?_
      show own_Go p e below _ s₁ (mkF m 30 #[.val (.ref a1), .val (.int (0 : Int32)), .val (.int (3 : Int32)), .val (.int key), .val (.int (0 : Int32)), .val (.int (0 : Int32)), .val (.int (0 : Int32)), .val (.int x0)] [])
      refine own_st (fun t k => XS.iload X0.here hx rfl (hb hby dbz3_30) rfl  k) ?_
      show own_Go p e below _ s₁ (mkF m 32 #[.val (.ref a1), .val (.int (0 : Int32)), .val (.int (3 : Int32)), .val (.int key), .val (.int (0 : Int32)), .val (.int (0 : Int32)), .val (.int (0 : Int32)), .val (.int x0)] [(.int x0)])
      refine own_st (fun t k => XS.iloadN X0.here hx rfl (hb hby dbz3_32) rfl  k) ?_
      show own_Go p e below _ s₁ (mkF m 33 #[.val (.ref a1), .val (.int (0 : Int32)), .val (.int (3 : Int32)), .val (.int key), .val (.int (0 : Int32)), .val (.int (0 : Int32)), .val (.int (0 : Int32)), .val (.int x0)] [(.int key), (.int x0)])
      by_cases u3 : x0 < key
      · refine own_st (fun t k => XS.icmpNo X0.here hx rfl (hb hby dbz3_33) rfl (tlt u3).2.1 k) ?_
        show own_Go p e below _ s₁ (mkF m 36 #[.val (.ref a1), .val (.int (0 : Int32)), .val (.int (3 : Int32)), .val (.int key), .val (.int (0 : Int32)), .val (.int (0 : Int32)), .val (.int (0 : Int32)), .val (.int x0)] [])
        refine own_st (fun t k => XS.iload X0.here hx rfl (hb hby dbz3_36) rfl  k) ?_
        show own_Go p e below _ s₁ (mkF m 38 #[.val (.ref a1), .val (.int (0 : Int32)), .val (.int (3 : Int32)), .val (.int key), .val (.int (0 : Int32)), .val (.int (0 : Int32)), .val (.int (0 : Int32)), .val (.int x0)] [(.int (0 : Int32))])
        refine own_st (fun t k => XS.iconst X0.here hx rfl (hb hby dbz3_38) k) ?_
        show own_Go p e below _ s₁ (mkF m 39 #[.val (.ref a1), .val (.int (0 : Int32)), .val (.int (3 : Int32)), .val (.int key), .val (.int (0 : Int32)), .val (.int (0 : Int32)), .val (.int (0 : Int32)), .val (.int x0)] [(.int (1 : Int32)), (.int (0 : Int32))])
        refine own_st (fun t k => XS.iadd X0.here hx rfl (hb hby dbz3_39) rfl k) ?_
        show own_Go p e below _ s₁ (mkF m 40 #[.val (.ref a1), .val (.int (0 : Int32)), .val (.int (3 : Int32)), .val (.int key), .val (.int (0 : Int32)), .val (.int (0 : Int32)), .val (.int (0 : Int32)), .val (.int x0)] [(.int ((0 : Int32) + (1 : Int32)))])
        show own_Go p e below _ s₁ (mkF m 40 #[.val (.ref a1), .val (.int (0 : Int32)), .val (.int (3 : Int32)), .val (.int key), .val (.int (0 : Int32)), .val (.int (0 : Int32)), .val (.int (0 : Int32)), .val (.int x0)] [(.int (1 : Int32))])
        refine own_st (fun t k => XS.istore X0.here hx rfl (hb hby dbz3_40) rfl (l' := #[.val (.ref a1), .val (.int (0 : Int32)), .val (.int (3 : Int32)), .val (.int key), .val (.int (1 : Int32)), .val (.int (0 : Int32)), .val (.int (0 : Int32)), .val (.int x0)]) rfl k) ?_
        show own_Go p e below _ s₁ (mkF m 42 #[.val (.ref a1), .val (.int (0 : Int32)), .val (.int (3 : Int32)), .val (.int key), .val (.int (1 : Int32)), .val (.int (0 : Int32)), .val (.int (0 : Int32)), .val (.int x0)] [])
        refine own_st (fun t k => XS.goto X0.here hx rfl (pc0 := 42) (pc' := 63) rfl (hb hby dbz3_42) (by decide) (by decide) k) ?_
        show own_Go p e below _ s₁ (mkF m 63 #[.val (.ref a1), .val (.int (0 : Int32)), .val (.int (3 : Int32)), .val (.int key), .val (.int (1 : Int32)), .val (.int (0 : Int32)), .val (.int (0 : Int32)), .val (.int x0)] [])
        refine own_st (fun t k => XS.goto X0.here hx rfl (pc0 := 63) (pc' := 8) rfl (hb hby dbz3_63) (by decide) (by decide) k) ?_
        show own_Go p e below _ s₁ (mkF m 8 #[.val (.ref a1), .val (.int (0 : Int32)), .val (.int (3 : Int32)), .val (.int key), .val (.int (1 : Int32)), .val (.int (0 : Int32)), .val (.int (0 : Int32)), .val (.int x0)] [])
        refine own_st (fun t k => XS.iload X0.here hx rfl (hb hby dbz3_8) rfl  k) ?_
        show own_Go p e below _ s₁ (mkF m 10 #[.val (.ref a1), .val (.int (0 : Int32)), .val (.int (3 : Int32)), .val (.int key), .val (.int (1 : Int32)), .val (.int (0 : Int32)), .val (.int (0 : Int32)), .val (.int x0)] [(.int (1 : Int32))])
        refine own_st (fun t k => XS.iload X0.here hx rfl (hb hby dbz3_10) rfl  k) ?_
        show own_Go p e below _ s₁ (mkF m 12 #[.val (.ref a1), .val (.int (0 : Int32)), .val (.int (3 : Int32)), .val (.int key), .val (.int (1 : Int32)), .val (.int (0 : Int32)), .val (.int (0 : Int32)), .val (.int x0)] [(.int (0 : Int32)), (.int (1 : Int32))])
        refine own_st (fun t k => XS.icmpYes X0.here hx rfl (pc0 := 12) (pc' := 66) rfl (hb hby dbz3_12) rfl (tlt (by decide : (0 : Int32) < (1 : Int32))).2.2.1 (by decide) (by decide) k) ?_
        show own_Go p e below _ s₁ (mkF m 66 #[.val (.ref a1), .val (.int (0 : Int32)), .val (.int (3 : Int32)), .val (.int key), .val (.int (1 : Int32)), .val (.int (0 : Int32)), .val (.int (0 : Int32)), .val (.int x0)] [])
        refine own_st (fun t k => XS.iload X0.here hx rfl (hb hby dbz3_66) rfl  k) ?_
        show own_Go p e below _ s₁ (mkF m 68 #[.val (.ref a1), .val (.int (0 : Int32)), .val (.int (3 : Int32)), .val (.int key), .val (.int (1 : Int32)), .val (.int (0 : Int32)), .val (.int (0 : Int32)), .val (.int x0)] [(.int (1 : Int32))])
        refine own_st (fun t k => XS.iconst X0.here hx rfl (hb hby dbz3_68) k) ?_
        show own_Go p e below _ s₁ (mkF m 69 #[.val (.ref a1), .val (.int (0 : Int32)), .val (.int (3 : Int32)), .val (.int key), .val (.int (1 : Int32)), .val (.int (0 : Int32)), .val (.int (0 : Int32)), .val (.int x0)] [(.int (1 : Int32)), (.int (1 : Int32))])
        refine own_st (fun t k => XS.iadd X0.here hx rfl (hb hby dbz3_69) rfl k) ?_
        show own_Go p e below _ s₁ (mkF m 70 #[.val (.ref a1), .val (.int (0 : Int32)), .val (.int (3 : Int32)), .val (.int key), .val (.int (1 : Int32)), .val (.int (0 : Int32)), .val (.int (0 : Int32)), .val (.int x0)] [(.int ((1 : Int32) + (1 : Int32)))])
        refine own_st (fun t k => XS.ineg X0.here hx rfl (hb hby dbz3_70) rfl k) ?_
        show own_Go p e below _ s₁ (mkF m 71 #[.val (.ref a1), .val (.int (0 : Int32)), .val (.int (3 : Int32)), .val (.int key), .val (.int (1 : Int32)), .val (.int (0 : Int32)), .val (.int (0 : Int32)), .val (.int x0)] [(.int (-((1 : Int32) + (1 : Int32))))])
        refine own_retI X0 hx hlk hret (hb hby dbz3_71) ?_ (by decide) (by decide)
        rw [e0]
        exact ⟨_, rfl, (Or.inr (Or.inr (Or.inr (⟨by decide, (by simp only [Int32.lt_iff_toInt_lt, ← Int32.toInt_inj] at v1 u3 h01 h12 ⊢; omega), (by simp only [Int32.lt_iff_toInt_lt, ← Int32.toInt_inj] at v1 u3 h01 h12 ⊢; omega), (by simp only [Int32.lt_iff_toInt_lt, ← Int32.toInt_inj] at v1 u3 h01 h12 ⊢; omega)⟩)))), N0, rfl⟩
      · refine own_st (fun t k => XS.icmpYes X0.here hx rfl (pc0 := 33) (pc' := 45) rfl (hb hby dbz3_33) rfl (flt u3).2.1 (by decide) (by decide) k) ?_
        show own_Go p e below _ s₁ (mkF m 45 #[.val (.ref a1), .val (.int (0 : Int32)), .val (.int (3 : Int32)), .val (.int key), .val (.int (0 : Int32)), .val (.int (0 : Int32)), .val (.int (0 : Int32)), .val (.int x0)] [])
        refine own_st (fun t k => XS.iload X0.here hx rfl (hb hby dbz3_45) rfl  k) ?_
        show own_Go p e below _ s₁ (mkF m 47 #[.val (.ref a1), .val (.int (0 : Int32)), .val (.int (3 : Int32)), .val (.int key), .val (.int (0 : Int32)), .val (.int (0 : Int32)), .val (.int (0 : Int32)), .val (.int x0)] [(.int x0)])
        refine own_st (fun t k => XS.iloadN X0.here hx rfl (hb hby dbz3_47) rfl  k) ?_
        show own_Go p e below _ s₁ (mkF m 48 #[.val (.ref a1), .val (.int (0 : Int32)), .val (.int (3 : Int32)), .val (.int key), .val (.int (0 : Int32)), .val (.int (0 : Int32)), .val (.int (0 : Int32)), .val (.int x0)] [(.int key), (.int x0)])
        by_cases v3 : key < x0
        · refine own_st (fun t k => XS.icmpNo X0.here hx rfl (hb hby dbz3_48) rfl (tlt v3).2.2.2 k) ?_
          show own_Go p e below _ s₁ (mkF m 51 #[.val (.ref a1), .val (.int (0 : Int32)), .val (.int (3 : Int32)), .val (.int key), .val (.int (0 : Int32)), .val (.int (0 : Int32)), .val (.int (0 : Int32)), .val (.int x0)] [])
          refine own_st (fun t k => XS.iload X0.here hx rfl (hb hby dbz3_51) rfl  k) ?_
          show own_Go p e below _ s₁ (mkF m 53 #[.val (.ref a1), .val (.int (0 : Int32)), .val (.int (3 : Int32)), .val (.int key), .val (.int (0 : Int32)), .val (.int (0 : Int32)), .val (.int (0 : Int32)), .val (.int x0)] [(.int (0 : Int32))])
          refine own_st (fun t k => XS.iconst X0.here hx rfl (hb hby dbz3_53) k) ?_
          show own_Go p e below _ s₁ (mkF m 54 #[.val (.ref a1), .val (.int (0 : Int32)), .val (.int (3 : Int32)), .val (.int key), .val (.int (0 : Int32)), .val (.int (0 : Int32)), .val (.int (0 : Int32)), .val (.int x0)] [(.int (1 : Int32)), (.int (0 : Int32))])
          refine own_st (fun t k => XS.isub X0.here hx rfl (hb hby dbz3_54) rfl k) ?_
          show own_Go p e below _ s₁ (mkF m 55 #[.val (.ref a1), .val (.int (0 : Int32)), .val (.int (3 : Int32)), .val (.int key), .val (.int (0 : Int32)), .val (.int (0 : Int32)), .val (.int (0 : Int32)), .val (.int x0)] [(.int ((0 : Int32) - (1 : Int32)))])
          show own_Go p e below _ s₁ (mkF m 55 #[.val (.ref a1), .val (.int (0 : Int32)), .val (.int (3 : Int32)), .val (.int key), .val (.int (0 : Int32)), .val (.int (0 : Int32)), .val (.int (0 : Int32)), .val (.int x0)] [(.int (-1 : Int32))])
          refine own_st (fun t k => XS.istore X0.here hx rfl (hb hby dbz3_55) rfl (l' := #[.val (.ref a1), .val (.int (0 : Int32)), .val (.int (3 : Int32)), .val (.int key), .val (.int (0 : Int32)), .val (.int (-1 : Int32)), .val (.int (0 : Int32)), .val (.int x0)]) rfl k) ?_
          show own_Go p e below _ s₁ (mkF m 57 #[.val (.ref a1), .val (.int (0 : Int32)), .val (.int (3 : Int32)), .val (.int key), .val (.int (0 : Int32)), .val (.int (-1 : Int32)), .val (.int (0 : Int32)), .val (.int x0)] [])
          refine own_st (fun t k => XS.goto X0.here hx rfl (pc0 := 57) (pc' := 63) rfl (hb hby dbz3_57) (by decide) (by decide) k) ?_
          show own_Go p e below _ s₁ (mkF m 63 #[.val (.ref a1), .val (.int (0 : Int32)), .val (.int (3 : Int32)), .val (.int key), .val (.int (0 : Int32)), .val (.int (-1 : Int32)), .val (.int (0 : Int32)), .val (.int x0)] [])
          refine own_st (fun t k => XS.goto X0.here hx rfl (pc0 := 63) (pc' := 8) rfl (hb hby dbz3_63) (by decide) (by decide) k) ?_
          show own_Go p e below _ s₁ (mkF m 8 #[.val (.ref a1), .val (.int (0 : Int32)), .val (.int (3 : Int32)), .val (.int key), .val (.int (0 : Int32)), .val (.int (-1 : Int32)), .val (.int (0 : Int32)), .val (.int x0)] [])
          refine own_st (fun t k => XS.iload X0.here hx rfl (hb hby dbz3_8) rfl  k) ?_
          show own_Go p e below _ s₁ (mkF m 10 #[.val (.ref a1), .val (.int (0 : Int32)), .val (.int (3 : Int32)), .val (.int key), .val (.int (0 : Int32)), .val (.int (-1 : Int32)), .val (.int (0 : Int32)), .val (.int x0)] [(.int (0 : Int32))])
          refine own_st (fun t k => XS.iload X0.here hx rfl (hb hby dbz3_10) rfl  k) ?_
          show own_Go p e below _ s₁ (mkF m 12 #[.val (.ref a1), .val (.int (0 : Int32)), .val (.int (3 : Int32)), .val (.int key), .val (.int (0 : Int32)), .val (.int (-1 : Int32)), .val (.int (0 : Int32)), .val (.int x0)] [(.int (-1 : Int32)), (.int (0 : Int32))])
          refine own_st (fun t k => XS.icmpYes X0.here hx rfl (pc0 := 12) (pc' := 66) rfl (hb hby dbz3_12) rfl (tlt (by decide : (-1 : Int32) < (0 : Int32))).2.2.1 (by decide) (by decide) k) ?_
          show own_Go p e below _ s₁ (mkF m 66 #[.val (.ref a1), .val (.int (0 : Int32)), .val (.int (3 : Int32)), .val (.int key), .val (.int (0 : Int32)), .val (.int (-1 : Int32)), .val (.int (0 : Int32)), .val (.int x0)] [])
          refine own_st (fun t k => XS.iload X0.here hx rfl (hb hby dbz3_66) rfl  k) ?_
          show own_Go p e below _ s₁ (mkF m 68 #[.val (.ref a1), .val (.int (0 : Int32)), .val (.int (3 : Int32)), .val (.int key), .val (.int (0 : Int32)), .val (.int (-1 : Int32)), .val (.int (0 : Int32)), .val (.int x0)] [(.int (0 : Int32))])
          refine own_st (fun t k => XS.iconst X0.here hx rfl (hb hby dbz3_68) k) ?_
          show own_Go p e below _ s₁ (mkF m 69 #[.val (.ref a1), .val (.int (0 : Int32)), .val (.int (3 : Int32)), .val (.int key), .val (.int (0 : Int32)), .val (.int (-1 : Int32)), .val (.int (0 : Int32)), .val (.int x0)] [(.int (1 : Int32)), (.int (0 : Int32))])
          refine own_st (fun t k => XS.iadd X0.here hx rfl (hb hby dbz3_69) rfl k) ?_
          show own_Go p e below _ s₁ (mkF m 70 #[.val (.ref a1), .val (.int (0 : Int32)), .val (.int (3 : Int32)), .val (.int key), .val (.int (0 : Int32)), .val (.int (-1 : Int32)), .val (.int (0 : Int32)), .val (.int x0)] [(.int ((0 : Int32) + (1 : Int32)))])
          refine own_st (fun t k => XS.ineg X0.here hx rfl (hb hby dbz3_70) rfl k) ?_
          show own_Go p e below _ s₁ (mkF m 71 #[.val (.ref a1), .val (.int (0 : Int32)), .val (.int (3 : Int32)), .val (.int key), .val (.int (0 : Int32)), .val (.int (-1 : Int32)), .val (.int (0 : Int32)), .val (.int x0)] [(.int (-((0 : Int32) + (1 : Int32))))])
          refine own_retI X0 hx hlk hret (hb hby dbz3_71) ?_ (by decide) (by decide)
          rw [e0]
          exact ⟨_, rfl, (Or.inr (Or.inr (Or.inr (⟨by decide, (by simp only [Int32.lt_iff_toInt_lt, ← Int32.toInt_inj] at v1 v3 h01 h12 ⊢; omega), (by simp only [Int32.lt_iff_toInt_lt, ← Int32.toInt_inj] at v1 v3 h01 h12 ⊢; omega), (by simp only [Int32.lt_iff_toInt_lt, ← Int32.toInt_inj] at v1 v3 h01 h12 ⊢; omega)⟩)))), N0, rfl⟩
        · refine own_st (fun t k => XS.icmpYes X0.here hx rfl (pc0 := 48) (pc' := 60) rfl (hb hby dbz3_48) rfl (flt v3).2.2.2 (by decide) (by decide) k) ?_
          show own_Go p e below _ s₁ (mkF m 60 #[.val (.ref a1), .val (.int (0 : Int32)), .val (.int (3 : Int32)), .val (.int key), .val (.int (0 : Int32)), .val (.int (0 : Int32)), .val (.int (0 : Int32)), .val (.int x0)] [])
          refine own_st (fun t k => XS.iload X0.here hx rfl (hb hby dbz3_60) rfl  k) ?_
          show own_Go p e below _ s₁ (mkF m 62 #[.val (.ref a1), .val (.int (0 : Int32)), .val (.int (3 : Int32)), .val (.int key), .val (.int (0 : Int32)), .val (.int (0 : Int32)), .val (.int (0 : Int32)), .val (.int x0)] [(.int (0 : Int32))])
          refine own_retI X0 hx hlk hret (hb hby dbz3_62) ?_ (by decide) (by decide)
          rw [e0]
          exact ⟨_, rfl, (Or.inl ⟨rfl, (by simp only [Int32.lt_iff_toInt_lt, ← Int32.toInt_inj] at u3 v3 ⊢; omega)⟩), N0, rfl⟩
    · refine own_st (fun t k => XS.icmpYes X0.here hx rfl (pc0 := 48) (pc' := 60) rfl (hb hby dbz3_48) rfl (flt v1).2.2.2 (by decide) (by decide) k) ?_
      show own_Go p e below _ s₁ (mkF m 60 #[.val (.ref a1), .val (.int (0 : Int32)), .val (.int (3 : Int32)), .val (.int key), .val (.int (0 : Int32)), .val (.int (2 : Int32)), .val (.int (1 : Int32)), .val (.int x1)] [])
      refine own_st (fun t k => XS.iload X0.here hx rfl (hb hby dbz3_60) rfl  k) ?_
      show own_Go p e below _ s₁ (mkF m 62 #[.val (.ref a1), .val (.int (0 : Int32)), .val (.int (3 : Int32)), .val (.int key), .val (.int (0 : Int32)), .val (.int (2 : Int32)), .val (.int (1 : Int32)), .val (.int x1)] [(.int (1 : Int32))])
      refine own_retI X0 hx hlk hret (hb hby dbz3_62) ?_ (by decide) (by decide)
      rw [e0]
      exact ⟨_, rfl, (Or.inr (Or.inl ⟨rfl, (by simp only [Int32.lt_iff_toInt_lt, ← Int32.toInt_inj] at u1 v1 ⊢; omega)⟩)), N0, rfl⟩
theorem dbs3_0 : decode jdk_65_method_57_code 0 = .ok (.aload_n 0, 1) := by decide +kernel
theorem dbs3_1 : decode jdk_65_method_57_code 1 = .ok (.iconst 0, 1) := by decide +kernel
theorem dbs3_2 : decode jdk_65_method_57_code 2 = .ok (.aload_n 0, 1) := by decide +kernel
theorem dbs3_3 : decode jdk_65_method_57_code 3 = .ok (.arraylength, 1) := by decide +kernel
theorem dbs3_4 : decode jdk_65_method_57_code 4 = .ok (.iload_n 1, 1) := by decide +kernel
theorem dbs3_5 : decode jdk_65_method_57_code 5 = .ok (.invokestatic 209, 3) := by decide +kernel
theorem dbs3_8 : decode jdk_65_method_57_code 8 = .ok (.ireturn, 1) := by decide +kernel
theorem efbs3 (m : MethodId) (x0 : Addr) (x1 : Int32) : entryFrame m #[(.ref x0), (.int x1)] 2 = mkF m 0 #[.val (.ref x0), .val (.int x1)] [] := by first | (simp [entryFrame, mkF, argsToLocals, Value.category]; done) | rfl
set_option maxRecDepth 65536 in
set_option maxHeartbeats 40000000 in
theorem rm_bs3 (l : Launch) (Z : State) (a0 : Array Value) (hw : ∀ d ∈ tables_1, d.before a0 Z = true) (ws : List Jvm.Cond) (a1 : Addr) (kk : ClassId) (x0 : Int32) (x1 : Int32) (x2 : Int32) (key : Int32) (h0 : Heap) (n0 : Nat) (Z0 : n0 ≤ h0.size) (V1 : Arv Z h0 a1 kk .int (3 : Int32) [(.int x0), (.int x1), (.int x2)] (.int (0 : Int32))) (h01 : x0 < x1) (h12 : x1 < x2) :
    own_Met l Z ws (⟨"java/util/Arrays", "binarySearch", "([II)I"⟩ : MethodName) jdk_65_method_57_code 2 (some .int) ({ frames := 1, cells := 0, slots := 0, locals := 20 } : Room) #[(.ref a1), (.int key)] h0 (fun v h L => ∃ r : Int32, v = some (.int r) ∧ ((r = 0 ∧ key = x0) ∨ (r = 1 ∧ key = x1) ∨ (r = 2 ∧ key = x2) ∨ (r < 0 ∧ ¬ key = x0 ∧ ¬ key = x1 ∧ ¬ key = x2)) ∧ Fr n0 L ∧ h = h0) := by
  refine own_body (plainFor_of_name pn_0) ?_
  intro p e s m below meth c s₁ hx hby hml hret hlk hown hnm hZ X0 e0
  have hml : c.maxLocals = 2 := hml
  have hown : s.vm.findClass "java/util/Arrays" = some m.cls := hown
  have N0 := Fr.nil n0
  refine own_cast (efbs3 m a1 key) ?_
  show own_Go p e below _ s₁ (mkF m 0 #[.val (.ref a1), .val (.int key)] [])
  refine own_st (fun t k => XS.aloadN X0.here hx rfl (hb hby dbs3_0) rfl rfl k) ?_
  show own_Go p e below _ s₁ (mkF m 1 #[.val (.ref a1), .val (.int key)] [(.ref a1)])
  refine own_st (fun t k => XS.iconst X0.here hx rfl (hb hby dbs3_1) k) ?_
  show own_Go p e below _ s₁ (mkF m 2 #[.val (.ref a1), .val (.int key)] [(.int (0 : Int32)), (.ref a1)])
  refine own_st (fun t k => XS.aloadN X0.here hx rfl (hb hby dbs3_2) rfl rfl k) ?_
  show own_Go p e below _ s₁ (mkF m 3 #[.val (.ref a1), .val (.int key)] [(.ref a1), (.int (0 : Int32)), (.ref a1)])
  obtain ⟨cl3, Ar3, -, S3, M3, -, -⟩ := id V1
  refine own_st (X0.arraylength hx (by rw [e0]; exact Ar3.1) (State.isArrayOf_alike hZ.alike Ar3.2.1) (g := (mkF m 3 #[.val (.ref a1), .val (.int key)] [(.ref a1), (.int (0 : Int32)), (.ref a1)])) rfl rfl (hb hby dbs3_3)) ?_
  rw [len_of S3 M3]
  show own_Go p e below _ s₁ (mkF m 4 #[.val (.ref a1), .val (.int key)] [(.int (3 : Int32)), (.int (0 : Int32)), (.ref a1)])
  refine own_st (fun t k => XS.iloadN X0.here hx rfl (hb hby dbs3_4) rfl  k) ?_
  show own_Go p e below _ s₁ (mkF m 5 #[.val (.ref a1), .val (.int key)] [(.int key), (.int (3 : Int32)), (.int (0 : Int32)), (.ref a1)])
  refine own_callS X0 hx hZ (y := (⟨"java/util/Arrays", "binarySearch0", "([IIII)I"⟩ : MethodName)) (W := 0) (kc := 0) (ks := 0) hown (hw _ (List.mem_of_getElem? (i := 37) rfl)) (hw _ (List.mem_of_getElem? (i := 38) rfl)) (hw _ (List.mem_of_getElem? (i := 35) rfl)) (hw _ (List.mem_of_getElem? (i := 39) rfl)) (own_back (W := 0) (rm_bsz3 l Z a0 hw [] a1 kk x0 x1 x2 key h0 n0 Z0 V1 h01 h12) hZ (hw _ (List.mem_of_getElem? (i := 39) rfl)) (hw _ (List.mem_of_getElem? (i := 35) rfl)) (by decide) (by decide)) (by decide) (g := (mkF m 5 #[.val (.ref a1), .val (.int key)] [(.int key), (.int (3 : Int32)), (.int (0 : Int32)), (.ref a1)])) rfl (by rw [hml]; rfl) (argsL := [(.ref a1), (.int (0 : Int32)), (.int (3 : Int32)), (.int key)]) (rest := []) (lenOf pd_0 rfl) rfl (by show 2 * 0 + _ ≤ _; exact Nat.le_of_eq rfl) (hb hby dbs3_5) rfl e0 (by decide) (by decide) (fun v5 T5 L5 X5 hQ5 => ?_)
  obtain ⟨r, rfl, hr, M5, e5⟩ := hQ5
  show own_Go p e below _ T5 (mkF m 8 #[.val (.ref a1), .val (.int key)] [(.int r)])
  refine own_retI X5 hx hlk hret (hb hby dbs3_8) ?_ (by decide) (by decide)
  rw [e5]
  exact ⟨_, rfl, hr, Fr.app N0 M5, rfl⟩
theorem dix3_0 : decode prog_44_method_8_code 0 = .ok (.aload_n 0, 1) := by decide +kernel
theorem dix3_1 : decode prog_44_method_8_code 1 = .ok (.getfield 7, 3) := by decide +kernel
theorem dix3_4 : decode prog_44_method_8_code 4 = .ok (.iload_n 1, 1) := by decide +kernel
theorem dix3_5 : decode prog_44_method_8_code 5 = .ok (.invokestatic 27, 3) := by decide +kernel
theorem dix3_8 : decode prog_44_method_8_code 8 = .ok (.istore_n 2, 1) := by decide +kernel
theorem dix3_9 : decode prog_44_method_8_code 9 = .ok (.iload_n 2, 1) := by decide +kernel
theorem dix3_10 : decode prog_44_method_8_code 10 = .ok (.ifCond .ge 7, 3) := by decide +kernel
theorem dix3_13 : decode prog_44_method_8_code 13 = .ok (.iconst (-1), 1) := by decide +kernel
theorem dix3_14 : decode prog_44_method_8_code 14 = .ok (.goto 4, 3) := by decide +kernel
theorem dix3_17 : decode prog_44_method_8_code 17 = .ok (.iload_n 2, 1) := by decide +kernel
theorem dix3_18 : decode prog_44_method_8_code 18 = .ok (.ireturn, 1) := by decide +kernel
theorem efix3 (m : MethodId) (x0 : Addr) (x1 : Int32) : entryFrame m #[(.ref x0), (.int x1)] 3 = mkF m 0 #[.val (.ref x0), .val (.int x1), .unset] [] := by first | (simp [entryFrame, mkF, argsToLocals, Value.category]; done) | rfl
set_option maxRecDepth 65536 in
set_option maxHeartbeats 40000000 in
theorem rm_ix3 (l : Launch) (Z : State) (a0 : Array Value) (hw : ∀ d ∈ tables_1, d.before a0 Z = true) (ws : List Jvm.Cond) (o1 : Addr) (a1 : Addr) (kk : ClassId) (x0 : Int32) (x1 : Int32) (x2 : Int32) (key : Int32) (h0 : Heap) (n0 : Nat) (Z0 : n0 ≤ h0.size) (F1 : Fld Z h0 o1 "com/example/rank3/rank3/text/Postings" "resources" "[I" (.ref a1)) (V1 : Arv Z h0 a1 kk .int (3 : Int32) [(.int x0), (.int x1), (.int x2)] (.int (0 : Int32))) (h01 : x0 < x1) (h12 : x1 < x2) :
    own_Met l Z ws (⟨"com/example/rank3/rank3/text/Postings", "indexOf", "(I)I"⟩ : MethodName) prog_44_method_8_code 3 (some .int) ({ frames := 2, cells := 0, slots := 0, locals := 40 } : Room) #[(.ref o1), (.int key)] h0 (fun v h L => ∃ r : Int32, v = some (.int r) ∧ ((r = 0 ∧ key = x0) ∨ (r = 1 ∧ key = x1) ∨ (r = 2 ∧ key = x2) ∨ (r = -1 ∧ ¬ key = x0 ∧ ¬ key = x1 ∧ ¬ key = x2)) ∧ Fr n0 L ∧ h = h0) := by
  refine own_body (plainFor_of_name pn_1) ?_
  intro p e s m below meth c s₁ hx hby hml hret hlk hown hnm hZ X0 e0
  have hml : c.maxLocals = 3 := hml
  have hown : s.vm.findClass "com/example/rank3/rank3/text/Postings" = some m.cls := hown
  have N0 := Fr.nil n0
  refine own_cast (efix3 m o1 key) ?_
  show own_Go p e below _ s₁ (mkF m 0 #[.val (.ref o1), .val (.int key), .unset] [])
  refine own_st (fun t k => XS.aloadN X0.here hx rfl (hb hby dix3_0) rfl rfl k) ?_
  show own_Go p e below _ s₁ (mkF m 1 #[.val (.ref o1), .val (.int key), .unset] [(.ref o1)])
  obtain ⟨T1, X1, e1, st1⟩ := getF X0 hx hZ hown (host := "") (Or.inl (hw _ (List.mem_of_getElem? (i := 18) rfl))) Via.refl e0 F1 (g := (mkF m 1 #[.val (.ref o1), .val (.int key), .unset] [(.ref o1)])) rfl rfl (hb hby dix3_1)
  refine own_st st1 ?_
  show own_Go p e below _ T1 (mkF m 4 #[.val (.ref o1), .val (.int key), .unset] [(.ref a1)])
  refine own_st (fun t k => XS.iloadN X1.here hx rfl (hb hby dix3_4) rfl  k) ?_
  show own_Go p e below _ T1 (mkF m 5 #[.val (.ref o1), .val (.int key), .unset] [(.int key), (.ref a1)])
  refine own_callS X1 hx hZ (y := (⟨"java/util/Arrays", "binarySearch", "([II)I"⟩ : MethodName)) (W := 0) (kc := 0) (ks := 0) hown (hw _ (List.mem_of_getElem? (i := 33) rfl)) (hw _ (List.mem_of_getElem? (i := 34) rfl)) (hw _ (List.mem_of_getElem? (i := 35) rfl)) (hw _ (List.mem_of_getElem? (i := 36) rfl)) (own_back (W := 0) (rm_bs3 l Z a0 hw [] a1 kk x0 x1 x2 key h0 n0 Z0 V1 h01 h12) hZ (hw _ (List.mem_of_getElem? (i := 36) rfl)) (hw _ (List.mem_of_getElem? (i := 35) rfl)) (by decide) (by decide)) (by decide) (g := (mkF m 5 #[.val (.ref o1), .val (.int key), .unset] [(.int key), (.ref a1)])) rfl (by rw [hml]; rfl) (argsL := [(.ref a1), (.int key)]) (rest := []) (lenOf pd_1 rfl) rfl (by show 2 * 0 + _ ≤ _; exact Nat.le_of_eq rfl) (hb hby dix3_5) rfl e1 (by decide) (by decide) (fun v5 T5 L5 X5 hQ5 => ?_)
  obtain ⟨r, rfl, hr, M5, e5⟩ := hQ5
  show own_Go p e below _ T5 (mkF m 8 #[.val (.ref o1), .val (.int key), .unset] [(.int r)])
  refine own_st (fun t k => XS.istoreN X5.here hx rfl (hb hby dix3_8) rfl (l' := #[.val (.ref o1), .val (.int key), .val (.int r)]) rfl k) ?_
  show own_Go p e below _ T5 (mkF m 9 #[.val (.ref o1), .val (.int key), .val (.int r)] [])
  refine own_st (fun t k => XS.iloadN X5.here hx rfl (hb hby dix3_9) rfl  k) ?_
  show own_Go p e below _ T5 (mkF m 10 #[.val (.ref o1), .val (.int key), .val (.int r)] [(.int r)])
  rcases hr with ⟨hr, hk⟩ | ⟨hr, hk⟩ | ⟨hr, hk⟩ | ⟨hr, hk⟩
  · subst hr
    show own_Go p e below _ T5 (mkF m 10 #[.val (.ref o1), .val (.int key), .val (.int (0 : Int32))] [(.int (0 : Int32))])
    refine own_st (fun t k => XS.ifYes X5.here hx rfl (pc0 := 10) (pc' := 17) rfl (hb hby dix3_10) rfl ((if0 _ _).trans (flt (by decide : ¬ (0 : Int32) < 0)).2.1) (by decide) (by decide) k) ?_
    show own_Go p e below _ T5 (mkF m 17 #[.val (.ref o1), .val (.int key), .val (.int (0 : Int32))] [])
    refine own_st (fun t k => XS.iloadN X5.here hx rfl (hb hby dix3_17) rfl  k) ?_
    show own_Go p e below _ T5 (mkF m 18 #[.val (.ref o1), .val (.int key), .val (.int (0 : Int32))] [(.int (0 : Int32))])
    refine own_retI X5 hx hlk hret (hb hby dix3_18) ?_ (by decide) (by decide)
    rw [e5]
    exact ⟨_, rfl, (Or.inl ⟨rfl, hk⟩), Fr.app N0 M5, rfl⟩
  · subst hr
    show own_Go p e below _ T5 (mkF m 10 #[.val (.ref o1), .val (.int key), .val (.int (1 : Int32))] [(.int (1 : Int32))])
    refine own_st (fun t k => XS.ifYes X5.here hx rfl (pc0 := 10) (pc' := 17) rfl (hb hby dix3_10) rfl ((if0 _ _).trans (flt (by decide : ¬ (1 : Int32) < 0)).2.1) (by decide) (by decide) k) ?_
    show own_Go p e below _ T5 (mkF m 17 #[.val (.ref o1), .val (.int key), .val (.int (1 : Int32))] [])
    refine own_st (fun t k => XS.iloadN X5.here hx rfl (hb hby dix3_17) rfl  k) ?_
    show own_Go p e below _ T5 (mkF m 18 #[.val (.ref o1), .val (.int key), .val (.int (1 : Int32))] [(.int (1 : Int32))])
    refine own_retI X5 hx hlk hret (hb hby dix3_18) ?_ (by decide) (by decide)
    rw [e5]
    exact ⟨_, rfl, (Or.inr (Or.inl ⟨rfl, hk⟩)), Fr.app N0 M5, rfl⟩
  · subst hr
    show own_Go p e below _ T5 (mkF m 10 #[.val (.ref o1), .val (.int key), .val (.int (2 : Int32))] [(.int (2 : Int32))])
    refine own_st (fun t k => XS.ifYes X5.here hx rfl (pc0 := 10) (pc' := 17) rfl (hb hby dix3_10) rfl ((if0 _ _).trans (flt (by decide : ¬ (2 : Int32) < 0)).2.1) (by decide) (by decide) k) ?_
    show own_Go p e below _ T5 (mkF m 17 #[.val (.ref o1), .val (.int key), .val (.int (2 : Int32))] [])
    refine own_st (fun t k => XS.iloadN X5.here hx rfl (hb hby dix3_17) rfl  k) ?_
    show own_Go p e below _ T5 (mkF m 18 #[.val (.ref o1), .val (.int key), .val (.int (2 : Int32))] [(.int (2 : Int32))])
    refine own_retI X5 hx hlk hret (hb hby dix3_18) ?_ (by decide) (by decide)
    rw [e5]
    exact ⟨_, rfl, (Or.inr (Or.inr (Or.inl ⟨rfl, hk⟩))), Fr.app N0 M5, rfl⟩
  · refine own_st (fun t k => XS.ifNo X5.here hx rfl (hb hby dix3_10) rfl ((if0 _ _).trans (tlt hr).2.1) k) ?_
    show own_Go p e below _ T5 (mkF m 13 #[.val (.ref o1), .val (.int key), .val (.int r)] [])
    refine own_st (fun t k => XS.iconst X5.here hx rfl (hb hby dix3_13) k) ?_
    show own_Go p e below _ T5 (mkF m 14 #[.val (.ref o1), .val (.int key), .val (.int r)] [(.int (-1 : Int32))])
    refine own_st (fun t k => XS.goto X5.here hx rfl (pc0 := 14) (pc' := 18) rfl (hb hby dix3_14) (by decide) (by decide) k) ?_
    show own_Go p e below _ T5 (mkF m 18 #[.val (.ref o1), .val (.int key), .val (.int r)] [(.int (-1 : Int32))])
    refine own_retI X5 hx hlk hret (hb hby dix3_18) ?_ (by decide) (by decide)
    rw [e5]
    exact ⟨_, rfl, (Or.inr (Or.inr (Or.inr (⟨rfl, hk⟩)))), Fr.app N0 M5, rfl⟩
theorem din3_0 : decode prog_44_method_1_code 0 = .ok (.aload_n 0, 1) := by decide +kernel
theorem din3_1 : decode prog_44_method_1_code 1 = .ok (.invokespecial 1, 3) := by decide +kernel
theorem din3_4 : decode prog_44_method_1_code 4 = .ok (.aload_n 0, 1) := by decide +kernel
theorem din3_5 : decode prog_44_method_1_code 5 = .ok (.aload_n 1, 1) := by decide +kernel
theorem din3_6 : decode prog_44_method_1_code 6 = .ok (.putfield 7, 3) := by decide +kernel
theorem din3_9 : decode prog_44_method_1_code 9 = .ok (.aload_n 0, 1) := by decide +kernel
theorem din3_10 : decode prog_44_method_1_code 10 = .ok (.aload_n 2, 1) := by decide +kernel
theorem din3_11 : decode prog_44_method_1_code 11 = .ok (.putfield 13, 3) := by decide +kernel
theorem din3_14 : decode prog_44_method_1_code 14 = .ok (.aload_n 0, 1) := by decide +kernel
theorem din3_15 : decode prog_44_method_1_code 15 = .ok (.aload_n 3, 1) := by decide +kernel
theorem din3_16 : decode prog_44_method_1_code 16 = .ok (.putfield 16, 3) := by decide +kernel
theorem din3_19 : decode prog_44_method_1_code 19 = .ok (.aload_n 0, 1) := by decide +kernel
theorem din3_20 : decode prog_44_method_1_code 20 = .ok (.aload 4, 2) := by decide +kernel
theorem din3_22 : decode prog_44_method_1_code 22 = .ok (.putfield 19, 3) := by decide +kernel
theorem din3_25 : decode prog_44_method_1_code 25 = .ok (.lconst 0, 1) := by decide +kernel
theorem din3_26 : decode prog_44_method_1_code 26 = .ok (.lstore 5, 2) := by decide +kernel
theorem din3_28 : decode prog_44_method_1_code 28 = .ok (.aload_n 3, 1) := by decide +kernel
theorem din3_29 : decode prog_44_method_1_code 29 = .ok (.astore 7, 2) := by decide +kernel
theorem din3_31 : decode prog_44_method_1_code 31 = .ok (.aload 7, 2) := by decide +kernel
theorem din3_33 : decode prog_44_method_1_code 33 = .ok (.arraylength, 1) := by decide +kernel
theorem din3_34 : decode prog_44_method_1_code 34 = .ok (.istore 8, 2) := by decide +kernel
theorem din3_36 : decode prog_44_method_1_code 36 = .ok (.iconst 0, 1) := by decide +kernel
theorem din3_37 : decode prog_44_method_1_code 37 = .ok (.istore 9, 2) := by decide +kernel
theorem din3_39 : decode prog_44_method_1_code 39 = .ok (.iload 9, 2) := by decide +kernel
theorem din3_41 : decode prog_44_method_1_code 41 = .ok (.iload 8, 2) := by decide +kernel
theorem din3_43 : decode prog_44_method_1_code 43 = .ok (.if_icmp .ge 24, 3) := by decide +kernel
theorem din3_46 : decode prog_44_method_1_code 46 = .ok (.aload 7, 2) := by decide +kernel
theorem din3_48 : decode prog_44_method_1_code 48 = .ok (.iload 9, 2) := by decide +kernel
theorem din3_50 : decode prog_44_method_1_code 50 = .ok (.iaload, 1) := by decide +kernel
theorem din3_51 : decode prog_44_method_1_code 51 = .ok (.istore 10, 2) := by decide +kernel
theorem din3_53 : decode prog_44_method_1_code 53 = .ok (.lload 5, 2) := by decide +kernel
theorem din3_55 : decode prog_44_method_1_code 55 = .ok (.iload 10, 2) := by decide +kernel
theorem din3_57 : decode prog_44_method_1_code 57 = .ok (.i2l, 1) := by decide +kernel
theorem din3_58 : decode prog_44_method_1_code 58 = .ok (.ladd, 1) := by decide +kernel
theorem din3_59 : decode prog_44_method_1_code 59 = .ok (.lstore 5, 2) := by decide +kernel
theorem din3_61 : decode prog_44_method_1_code 61 = .ok (.iinc 9 1, 3) := by decide +kernel
theorem din3_64 : decode prog_44_method_1_code 64 = .ok (.goto (-25), 3) := by decide +kernel
theorem din3_67 : decode prog_44_method_1_code 67 = .ok (.aload_n 0, 1) := by decide +kernel
theorem din3_68 : decode prog_44_method_1_code 68 = .ok (.lload 5, 2) := by decide +kernel
theorem din3_70 : decode prog_44_method_1_code 70 = .ok (.putfield 23, 3) := by decide +kernel
theorem din3_73 : decode prog_44_method_1_code 73 = .ok (.return_, 1) := by decide +kernel
theorem efin3 (m : MethodId) (x0 : Addr) (x1 : Addr) (x2 : Addr) (x3 : Addr) (x4 : Addr) : entryFrame m #[(.ref x0), (.ref x1), (.ref x2), (.ref x3), (.ref x4)] 11 = mkF m 0 #[.val (.ref x0), .val (.ref x1), .val (.ref x2), .val (.ref x3), .val (.ref x4), .unset, .unset, .unset, .unset, .unset, .unset] [] := by first | (simp [entryFrame, mkF, argsToLocals, Value.category]; done) | rfl
set_option maxRecDepth 65536 in
set_option maxHeartbeats 40000000 in
theorem rm_in3 (l : Launch) (Z : State) (a0 : Array Value) (hw : ∀ d ∈ tables_1, d.before a0 Z = true) (ws : List Jvm.Cond) (o1 : Addr) (r1 : Addr) (t1 : Addr) (c1 : Addr) (s1 : Addr) (kc : ClassId) (h0 : Heap) (n0 : Nat) (Z0 : n0 ≤ h0.size) (E1 : Exa Z h0 o1 "com/example/rank3/rank3/text/Postings") (F1_resources : Fld Z h0 o1 "com/example/rank3/rank3/text/Postings" "resources" "[I" .null) (F1_titleCounts : Fld Z h0 o1 "com/example/rank3/rank3/text/Postings" "titleCounts" "[I" .null) (F1_contentCounts : Fld Z h0 o1 "com/example/rank3/rank3/text/Postings" "contentCounts" "[I" .null) (F1_inStructure : Fld Z h0 o1 "com/example/rank3/rank3/text/Postings" "inStructure" "[Z" .null) (F1_collectionCount : Fld Z h0 o1 "com/example/rank3/rank3/text/Postings" "collectionCount" "J" (.long (0 : Int64))) (ge : n0 ≤ o1) (Vc : Arv Z h0 c1 kc .int (3 : Int32) [(.int (0 : Int32)), (.int (0 : Int32)), (.int (0 : Int32))] (.int (0 : Int32))) (hne : c1 ≠ o1) :
    own_Met l Z ws (⟨"com/example/rank3/rank3/text/Postings", "<init>", "([I[I[I[Z)V"⟩ : MethodName) prog_44_method_1_code 11 none ({ frames := 1, cells := 0, slots := 0, locals := 12 } : Room) #[(.ref o1), (.ref r1), (.ref t1), (.ref c1), (.ref s1)] h0 (fun v h L => v = none ∧ Fr n0 L ∧ Keep h0 h [o1] ∧ Exa Z h o1 "com/example/rank3/rank3/text/Postings" ∧ Fld Z h o1 "com/example/rank3/rank3/text/Postings" "resources" "[I" (.ref r1)) := by
  refine own_body (plainFor_of_name pn_1) ?_
  intro p e s m below meth c s₁ hx hby hml hret hlk hown hnm hZ X0 e0
  have hml : c.maxLocals = 11 := hml
  have hown : s.vm.findClass "com/example/rank3/rank3/text/Postings" = some m.cls := hown
  have N0 := Fr.nil n0
  refine own_cast (efin3 m o1 r1 t1 c1 s1) ?_
  show own_Go p e below _ s₁ (mkF m 0 #[.val (.ref o1), .val (.ref r1), .val (.ref t1), .val (.ref c1), .val (.ref s1), .unset, .unset, .unset, .unset, .unset, .unset] [])
  refine own_st (fun t k => XS.aloadN X0.here hx rfl (hb hby din3_0) rfl rfl k) ?_
  show own_Go p e below _ s₁ (mkF m 1 #[.val (.ref o1), .val (.ref r1), .val (.ref t1), .val (.ref c1), .val (.ref s1), .unset, .unset, .unset, .unset, .unset, .unset] [(.ref o1)])
  obtain ⟨T1, X1, e1, st1⟩ := initO X0 hx hZ hown (hw _ (List.mem_of_getElem? (i := 15) rfl)) (hw _ (List.mem_of_getElem? (i := 16) rfl)) (hw _ (List.mem_of_getElem? (i := 17) rfl)) e0 (g := (mkF m 1 #[.val (.ref o1), .val (.ref r1), .val (.ref t1), .val (.ref c1), .val (.ref s1), .unset, .unset, .unset, .unset, .unset, .unset] [(.ref o1)])) rfl (by rw [hml]; rfl) rfl (hb hby din3_1) (by decide) (W := 0) (by show 2 * 0 + _ ≤ _; exact Nat.le_of_eq rfl) (by decide)
  refine own_st st1 ?_
  show own_Go p e below _ T1 (mkF m 4 #[.val (.ref o1), .val (.ref r1), .val (.ref t1), .val (.ref c1), .val (.ref s1), .unset, .unset, .unset, .unset, .unset, .unset] [])
  refine own_st (fun t k => XS.aloadN X1.here hx rfl (hb hby din3_4) rfl rfl k) ?_
  show own_Go p e below _ T1 (mkF m 5 #[.val (.ref o1), .val (.ref r1), .val (.ref t1), .val (.ref c1), .val (.ref s1), .unset, .unset, .unset, .unset, .unset, .unset] [(.ref o1)])
  refine own_st (fun t k => XS.aloadN X1.here hx rfl (hb hby din3_5) rfl rfl k) ?_
  show own_Go p e below _ T1 (mkF m 6 #[.val (.ref o1), .val (.ref r1), .val (.ref t1), .val (.ref c1), .val (.ref s1), .unset, .unset, .unset, .unset, .unset, .unset] [(.ref r1), (.ref o1)])
  obtain ⟨T6, h6, X6, e6, W6, st6⟩ := putF X1 hx hZ hown (host := "") (Or.inl (hw _ (List.mem_of_getElem? (i := 18) rfl))) Via.refl e1 F1_resources E1 (Or.inr ⟨(hw _ (List.mem_of_getElem? (i := 19) rfl)), rfl, hnm⟩) (hw _ (List.mem_of_getElem? (i := 9) rfl)) (ty := (.array .int)) (by decide) rfl rfl (g := (mkF m 6 #[.val (.ref o1), .val (.ref r1), .val (.ref t1), .val (.ref c1), .val (.ref s1), .unset, .unset, .unset, .unset, .unset, .unset] [(.ref r1), (.ref o1)])) rfl rfl (hb hby din3_6)
  refine own_st st6 ?_
  have N6 := Fr.snoc X6 N0 ge
  have E6_o := E1.wr W6
  have F6_resources := F1_resources.same W6
  have F6_titleCounts := F1_titleCounts.other W6 (Or.inr (slot_ne (Or.inr (hw _ (List.mem_of_getElem? (i := 21) rfl))) (Or.inr (hw _ (List.mem_of_getElem? (i := 19) rfl))) (by decide) (t := (.array .int)) (t' := (.array .int)) (by decide) (by decide)))
  have F6_contentCounts := F1_contentCounts.other W6 (Or.inr (slot_ne (Or.inr (hw _ (List.mem_of_getElem? (i := 23) rfl))) (Or.inr (hw _ (List.mem_of_getElem? (i := 19) rfl))) (by decide) (t := (.array .int)) (t' := (.array .int)) (by decide) (by decide)))
  have F6_inStructure := F1_inStructure.other W6 (Or.inr (slot_ne (Or.inr (hw _ (List.mem_of_getElem? (i := 25) rfl))) (Or.inr (hw _ (List.mem_of_getElem? (i := 19) rfl))) (by decide) (t := (.array .boolean)) (t' := (.array .int)) (by decide) (by decide)))
  have F6_collectionCount := F1_collectionCount.other W6 (Or.inr (slot_ne (Or.inr (hw _ (List.mem_of_getElem? (i := 27) rfl))) (Or.inr (hw _ (List.mem_of_getElem? (i := 19) rfl))) (by decide) (t := .long) (t' := (.array .int)) (by decide) (by decide)))
  have VC6 := Vc.other W6 hne
  have K6 : Keep h0 h6 [o1] := (Keep.refl h0 [o1]).wr W6 (Or.inl (List.mem_of_getElem? (i := 0) rfl))
  show own_Go p e below _ T6 (mkF m 9 #[.val (.ref o1), .val (.ref r1), .val (.ref t1), .val (.ref c1), .val (.ref s1), .unset, .unset, .unset, .unset, .unset, .unset] [])
  refine own_st (fun t k => XS.aloadN X6.here hx rfl (hb hby din3_9) rfl rfl k) ?_
  show own_Go p e below _ T6 (mkF m 10 #[.val (.ref o1), .val (.ref r1), .val (.ref t1), .val (.ref c1), .val (.ref s1), .unset, .unset, .unset, .unset, .unset, .unset] [(.ref o1)])
  refine own_st (fun t k => XS.aloadN X6.here hx rfl (hb hby din3_10) rfl rfl k) ?_
  show own_Go p e below _ T6 (mkF m 11 #[.val (.ref o1), .val (.ref r1), .val (.ref t1), .val (.ref c1), .val (.ref s1), .unset, .unset, .unset, .unset, .unset, .unset] [(.ref t1), (.ref o1)])
  obtain ⟨T11, h11, X11, e11, W11, st11⟩ := putF X6 hx hZ hown (host := "") (Or.inl (hw _ (List.mem_of_getElem? (i := 20) rfl))) Via.refl e6 F6_titleCounts E6_o (Or.inr ⟨(hw _ (List.mem_of_getElem? (i := 21) rfl)), rfl, hnm⟩) (hw _ (List.mem_of_getElem? (i := 9) rfl)) (ty := (.array .int)) (by decide) rfl rfl (g := (mkF m 11 #[.val (.ref o1), .val (.ref r1), .val (.ref t1), .val (.ref c1), .val (.ref s1), .unset, .unset, .unset, .unset, .unset, .unset] [(.ref t1), (.ref o1)])) rfl rfl (hb hby din3_11)
  refine own_st st11 ?_
  have N11 := Fr.snoc X11 N6 ge
  have E11_o := E6_o.wr W11
  have F11_resources := F6_resources.other W11 (Or.inr (slot_ne (Or.inr (hw _ (List.mem_of_getElem? (i := 19) rfl))) (Or.inr (hw _ (List.mem_of_getElem? (i := 21) rfl))) (by decide) (t := (.array .int)) (t' := (.array .int)) (by decide) (by decide)))
  have F11_titleCounts := F6_titleCounts.same W11
  have F11_contentCounts := F6_contentCounts.other W11 (Or.inr (slot_ne (Or.inr (hw _ (List.mem_of_getElem? (i := 23) rfl))) (Or.inr (hw _ (List.mem_of_getElem? (i := 21) rfl))) (by decide) (t := (.array .int)) (t' := (.array .int)) (by decide) (by decide)))
  have F11_inStructure := F6_inStructure.other W11 (Or.inr (slot_ne (Or.inr (hw _ (List.mem_of_getElem? (i := 25) rfl))) (Or.inr (hw _ (List.mem_of_getElem? (i := 21) rfl))) (by decide) (t := (.array .boolean)) (t' := (.array .int)) (by decide) (by decide)))
  have F11_collectionCount := F6_collectionCount.other W11 (Or.inr (slot_ne (Or.inr (hw _ (List.mem_of_getElem? (i := 27) rfl))) (Or.inr (hw _ (List.mem_of_getElem? (i := 21) rfl))) (by decide) (t := .long) (t' := (.array .int)) (by decide) (by decide)))
  have VC11 := VC6.other W11 hne
  have K11 : Keep h0 h11 [o1] := K6.wr W11 (Or.inl (List.mem_of_getElem? (i := 0) rfl))
  show own_Go p e below _ T11 (mkF m 14 #[.val (.ref o1), .val (.ref r1), .val (.ref t1), .val (.ref c1), .val (.ref s1), .unset, .unset, .unset, .unset, .unset, .unset] [])
  refine own_st (fun t k => XS.aloadN X11.here hx rfl (hb hby din3_14) rfl rfl k) ?_
  show own_Go p e below _ T11 (mkF m 15 #[.val (.ref o1), .val (.ref r1), .val (.ref t1), .val (.ref c1), .val (.ref s1), .unset, .unset, .unset, .unset, .unset, .unset] [(.ref o1)])
  refine own_st (fun t k => XS.aloadN X11.here hx rfl (hb hby din3_15) rfl rfl k) ?_
  show own_Go p e below _ T11 (mkF m 16 #[.val (.ref o1), .val (.ref r1), .val (.ref t1), .val (.ref c1), .val (.ref s1), .unset, .unset, .unset, .unset, .unset, .unset] [(.ref c1), (.ref o1)])
  obtain ⟨T16, h16, X16, e16, W16, st16⟩ := putF X11 hx hZ hown (host := "") (Or.inl (hw _ (List.mem_of_getElem? (i := 22) rfl))) Via.refl e11 F11_contentCounts E11_o (Or.inr ⟨(hw _ (List.mem_of_getElem? (i := 23) rfl)), rfl, hnm⟩) (hw _ (List.mem_of_getElem? (i := 9) rfl)) (ty := (.array .int)) (by decide) rfl rfl (g := (mkF m 16 #[.val (.ref o1), .val (.ref r1), .val (.ref t1), .val (.ref c1), .val (.ref s1), .unset, .unset, .unset, .unset, .unset, .unset] [(.ref c1), (.ref o1)])) rfl rfl (hb hby din3_16)
  refine own_st st16 ?_
  have N16 := Fr.snoc X16 N11 ge
  have E16_o := E11_o.wr W16
  have F16_resources := F11_resources.other W16 (Or.inr (slot_ne (Or.inr (hw _ (List.mem_of_getElem? (i := 19) rfl))) (Or.inr (hw _ (List.mem_of_getElem? (i := 23) rfl))) (by decide) (t := (.array .int)) (t' := (.array .int)) (by decide) (by decide)))
  have F16_titleCounts := F11_titleCounts.other W16 (Or.inr (slot_ne (Or.inr (hw _ (List.mem_of_getElem? (i := 21) rfl))) (Or.inr (hw _ (List.mem_of_getElem? (i := 23) rfl))) (by decide) (t := (.array .int)) (t' := (.array .int)) (by decide) (by decide)))
  have F16_contentCounts := F11_contentCounts.same W16
  have F16_inStructure := F11_inStructure.other W16 (Or.inr (slot_ne (Or.inr (hw _ (List.mem_of_getElem? (i := 25) rfl))) (Or.inr (hw _ (List.mem_of_getElem? (i := 23) rfl))) (by decide) (t := (.array .boolean)) (t' := (.array .int)) (by decide) (by decide)))
  have F16_collectionCount := F11_collectionCount.other W16 (Or.inr (slot_ne (Or.inr (hw _ (List.mem_of_getElem? (i := 27) rfl))) (Or.inr (hw _ (List.mem_of_getElem? (i := 23) rfl))) (by decide) (t := .long) (t' := (.array .int)) (by decide) (by decide)))
  have VC16 := VC11.other W16 hne
  have K16 : Keep h0 h16 [o1] := K11.wr W16 (Or.inl (List.mem_of_getElem? (i := 0) rfl))
  show own_Go p e below _ T16 (mkF m 19 #[.val (.ref o1), .val (.ref r1), .val (.ref t1), .val (.ref c1), .val (.ref s1), .unset, .unset, .unset, .unset, .unset, .unset] [])
  refine own_st (fun t k => XS.aloadN X16.here hx rfl (hb hby din3_19) rfl rfl k) ?_
  show own_Go p e below _ T16 (mkF m 20 #[.val (.ref o1), .val (.ref r1), .val (.ref t1), .val (.ref c1), .val (.ref s1), .unset, .unset, .unset, .unset, .unset, .unset] [(.ref o1)])
  refine own_st (fun t k => XS.aload X16.here hx rfl (hb hby din3_20) rfl rfl k) ?_
  show own_Go p e below _ T16 (mkF m 22 #[.val (.ref o1), .val (.ref r1), .val (.ref t1), .val (.ref c1), .val (.ref s1), .unset, .unset, .unset, .unset, .unset, .unset] [(.ref s1), (.ref o1)])
  obtain ⟨T22, h22, X22, e22, W22, st22⟩ := putF X16 hx hZ hown (host := "") (Or.inl (hw _ (List.mem_of_getElem? (i := 24) rfl))) Via.refl e16 F16_inStructure E16_o (Or.inr ⟨(hw _ (List.mem_of_getElem? (i := 25) rfl)), rfl, hnm⟩) (hw _ (List.mem_of_getElem? (i := 9) rfl)) (ty := (.array .boolean)) (by decide) rfl rfl (g := (mkF m 22 #[.val (.ref o1), .val (.ref r1), .val (.ref t1), .val (.ref c1), .val (.ref s1), .unset, .unset, .unset, .unset, .unset, .unset] [(.ref s1), (.ref o1)])) rfl rfl (hb hby din3_22)
  refine own_st st22 ?_
  have N22 := Fr.snoc X22 N16 ge
  have E22_o := E16_o.wr W22
  have F22_resources := F16_resources.other W22 (Or.inr (slot_ne (Or.inr (hw _ (List.mem_of_getElem? (i := 19) rfl))) (Or.inr (hw _ (List.mem_of_getElem? (i := 25) rfl))) (by decide) (t := (.array .int)) (t' := (.array .boolean)) (by decide) (by decide)))
  have F22_titleCounts := F16_titleCounts.other W22 (Or.inr (slot_ne (Or.inr (hw _ (List.mem_of_getElem? (i := 21) rfl))) (Or.inr (hw _ (List.mem_of_getElem? (i := 25) rfl))) (by decide) (t := (.array .int)) (t' := (.array .boolean)) (by decide) (by decide)))
  have F22_contentCounts := F16_contentCounts.other W22 (Or.inr (slot_ne (Or.inr (hw _ (List.mem_of_getElem? (i := 23) rfl))) (Or.inr (hw _ (List.mem_of_getElem? (i := 25) rfl))) (by decide) (t := (.array .int)) (t' := (.array .boolean)) (by decide) (by decide)))
  have F22_inStructure := F16_inStructure.same W22
  have F22_collectionCount := F16_collectionCount.other W22 (Or.inr (slot_ne (Or.inr (hw _ (List.mem_of_getElem? (i := 27) rfl))) (Or.inr (hw _ (List.mem_of_getElem? (i := 25) rfl))) (by decide) (t := .long) (t' := (.array .boolean)) (by decide) (by decide)))
  have VC22 := VC16.other W22 hne
  have K22 : Keep h0 h22 [o1] := K16.wr W22 (Or.inl (List.mem_of_getElem? (i := 0) rfl))
  show own_Go p e below _ T22 (mkF m 25 #[.val (.ref o1), .val (.ref r1), .val (.ref t1), .val (.ref c1), .val (.ref s1), .unset, .unset, .unset, .unset, .unset, .unset] [])
  refine own_st (fun t k => XS.lconst X22.here hx rfl (hb hby din3_25) k) ?_
  show own_Go p e below _ T22 (mkF m 26 #[.val (.ref o1), .val (.ref r1), .val (.ref t1), .val (.ref c1), .val (.ref s1), .unset, .unset, .unset, .unset, .unset, .unset] [(.long (0 : Int64))])
  refine own_st (fun t k => XS.lstore X22.here hx rfl (hb hby din3_26) rfl (l' := #[.val (.ref o1), .val (.ref r1), .val (.ref t1), .val (.ref c1), .val (.ref s1), .val (.long (0 : Int64)), .second, .unset, .unset, .unset, .unset]) rfl k) ?_
  show own_Go p e below _ T22 (mkF m 28 #[.val (.ref o1), .val (.ref r1), .val (.ref t1), .val (.ref c1), .val (.ref s1), .val (.long (0 : Int64)), .second, .unset, .unset, .unset, .unset] [])
  refine own_st (fun t k => XS.aloadN X22.here hx rfl (hb hby din3_28) rfl rfl k) ?_
  show own_Go p e below _ T22 (mkF m 29 #[.val (.ref o1), .val (.ref r1), .val (.ref t1), .val (.ref c1), .val (.ref s1), .val (.long (0 : Int64)), .second, .unset, .unset, .unset, .unset] [(.ref c1)])
  refine own_st (fun t k => XS.astore X22.here hx rfl (hb hby din3_29) rfl rfl (l' := #[.val (.ref o1), .val (.ref r1), .val (.ref t1), .val (.ref c1), .val (.ref s1), .val (.long (0 : Int64)), .second, .val (.ref c1), .unset, .unset, .unset]) rfl k) ?_
  show own_Go p e below _ T22 (mkF m 31 #[.val (.ref o1), .val (.ref r1), .val (.ref t1), .val (.ref c1), .val (.ref s1), .val (.long (0 : Int64)), .second, .val (.ref c1), .unset, .unset, .unset] [])
  refine own_st (fun t k => XS.aload X22.here hx rfl (hb hby din3_31) rfl rfl k) ?_
  show own_Go p e below _ T22 (mkF m 33 #[.val (.ref o1), .val (.ref r1), .val (.ref t1), .val (.ref c1), .val (.ref s1), .val (.long (0 : Int64)), .second, .val (.ref c1), .unset, .unset, .unset] [(.ref c1)])
  obtain ⟨cl33, Ar33, -, S33, M33, -, -⟩ := id VC22
  refine own_st (X22.arraylength hx (by rw [e22]; exact Ar33.1) (State.isArrayOf_alike hZ.alike Ar33.2.1) (g := (mkF m 33 #[.val (.ref o1), .val (.ref r1), .val (.ref t1), .val (.ref c1), .val (.ref s1), .val (.long (0 : Int64)), .second, .val (.ref c1), .unset, .unset, .unset] [(.ref c1)])) rfl rfl (hb hby din3_33)) ?_
  rw [len_of S33 M33]
  show own_Go p e below _ T22 (mkF m 34 #[.val (.ref o1), .val (.ref r1), .val (.ref t1), .val (.ref c1), .val (.ref s1), .val (.long (0 : Int64)), .second, .val (.ref c1), .unset, .unset, .unset] [(.int (3 : Int32))])
  refine own_st (fun t k => XS.istore X22.here hx rfl (hb hby din3_34) rfl (l' := #[.val (.ref o1), .val (.ref r1), .val (.ref t1), .val (.ref c1), .val (.ref s1), .val (.long (0 : Int64)), .second, .val (.ref c1), .val (.int (3 : Int32)), .unset, .unset]) rfl k) ?_
  show own_Go p e below _ T22 (mkF m 36 #[.val (.ref o1), .val (.ref r1), .val (.ref t1), .val (.ref c1), .val (.ref s1), .val (.long (0 : Int64)), .second, .val (.ref c1), .val (.int (3 : Int32)), .unset, .unset] [])
  refine own_st (fun t k => XS.iconst X22.here hx rfl (hb hby din3_36) k) ?_
  show own_Go p e below _ T22 (mkF m 37 #[.val (.ref o1), .val (.ref r1), .val (.ref t1), .val (.ref c1), .val (.ref s1), .val (.long (0 : Int64)), .second, .val (.ref c1), .val (.int (3 : Int32)), .unset, .unset] [(.int (0 : Int32))])
  refine own_st (fun t k => XS.istore X22.here hx rfl (hb hby din3_37) rfl (l' := #[.val (.ref o1), .val (.ref r1), .val (.ref t1), .val (.ref c1), .val (.ref s1), .val (.long (0 : Int64)), .second, .val (.ref c1), .val (.int (3 : Int32)), .val (.int (0 : Int32)), .unset]) rfl k) ?_
  show own_Go p e below _ T22 (mkF m 39 #[.val (.ref o1), .val (.ref r1), .val (.ref t1), .val (.ref c1), .val (.ref s1), .val (.long (0 : Int64)), .second, .val (.ref c1), .val (.int (3 : Int32)), .val (.int (0 : Int32)), .unset] [])
  refine own_st (fun t k => XS.iload X22.here hx rfl (hb hby din3_39) rfl  k) ?_
  show own_Go p e below _ T22 (mkF m 41 #[.val (.ref o1), .val (.ref r1), .val (.ref t1), .val (.ref c1), .val (.ref s1), .val (.long (0 : Int64)), .second, .val (.ref c1), .val (.int (3 : Int32)), .val (.int (0 : Int32)), .unset] [(.int (0 : Int32))])
  refine own_st (fun t k => XS.iload X22.here hx rfl (hb hby din3_41) rfl  k) ?_
  show own_Go p e below _ T22 (mkF m 43 #[.val (.ref o1), .val (.ref r1), .val (.ref t1), .val (.ref c1), .val (.ref s1), .val (.long (0 : Int64)), .second, .val (.ref c1), .val (.int (3 : Int32)), .val (.int (0 : Int32)), .unset] [(.int (3 : Int32)), (.int (0 : Int32))])
  refine own_st (fun t k => XS.icmpNo X22.here hx rfl (hb hby din3_43) rfl (tlt (by decide : (0 : Int32) < (3 : Int32))).2.1 k) ?_
  show own_Go p e below _ T22 (mkF m 46 #[.val (.ref o1), .val (.ref r1), .val (.ref t1), .val (.ref c1), .val (.ref s1), .val (.long (0 : Int64)), .second, .val (.ref c1), .val (.int (3 : Int32)), .val (.int (0 : Int32)), .unset] [])
  refine own_st (fun t k => XS.aload X22.here hx rfl (hb hby din3_46) rfl rfl k) ?_
  show own_Go p e below _ T22 (mkF m 48 #[.val (.ref o1), .val (.ref r1), .val (.ref t1), .val (.ref c1), .val (.ref s1), .val (.long (0 : Int64)), .second, .val (.ref c1), .val (.int (3 : Int32)), .val (.int (0 : Int32)), .unset] [(.ref c1)])
  refine own_st (fun t k => XS.iload X22.here hx rfl (hb hby din3_48) rfl  k) ?_
  show own_Go p e below _ T22 (mkF m 50 #[.val (.ref o1), .val (.ref r1), .val (.ref t1), .val (.ref c1), .val (.ref s1), .val (.long (0 : Int64)), .second, .val (.ref c1), .val (.int (3 : Int32)), .val (.int (0 : Int32)), .unset] [(.int (0 : Int32)), (.ref c1)])
  obtain ⟨cli0, Ari0, -, Si0, Mi0, Hi0, Gi0⟩ := id VC22
  have hini0 : ¬ ((0 : Int32) < 0 ∨ cli0.slots.size ≤ ((0 : Int32)).toNatClampNeg) := inb_of Si0 ⟨by decide, by decide⟩
  refine own_st (X22.iaload hx (j := (0 : Int32)) (v := (.int (0 : Int32))) (by rw [e22]; exact Ari0.1) (State.isArrayOf_alike hZ.alike Ari0.2.1) Ari0.2.2 hini0 (Has.at Hi0 hini0 rfl) (g := (mkF m 50 #[.val (.ref o1), .val (.ref r1), .val (.ref t1), .val (.ref c1), .val (.ref s1), .val (.long (0 : Int64)), .second, .val (.ref c1), .val (.int (3 : Int32)), .val (.int (0 : Int32)), .unset] [(.int (0 : Int32)), (.ref c1)])) rfl rfl (hb hby din3_50)) ?_
  show own_Go p e below _ T22 (mkF m 51 #[.val (.ref o1), .val (.ref r1), .val (.ref t1), .val (.ref c1), .val (.ref s1), .val (.long (0 : Int64)), .second, .val (.ref c1), .val (.int (3 : Int32)), .val (.int (0 : Int32)), .unset] [(.int (0 : Int32))])
  refine own_st (fun t k => XS.istore X22.here hx rfl (hb hby din3_51) rfl (l' := #[.val (.ref o1), .val (.ref r1), .val (.ref t1), .val (.ref c1), .val (.ref s1), .val (.long (0 : Int64)), .second, .val (.ref c1), .val (.int (3 : Int32)), .val (.int (0 : Int32)), .val (.int (0 : Int32))]) rfl k) ?_
  show own_Go p e below _ T22 (mkF m 53 #[.val (.ref o1), .val (.ref r1), .val (.ref t1), .val (.ref c1), .val (.ref s1), .val (.long (0 : Int64)), .second, .val (.ref c1), .val (.int (3 : Int32)), .val (.int (0 : Int32)), .val (.int (0 : Int32))] [])
  refine own_st (fun t k => XS.lload X22.here hx rfl (hb hby din3_53) rfl  k) ?_
  show own_Go p e below _ T22 (mkF m 55 #[.val (.ref o1), .val (.ref r1), .val (.ref t1), .val (.ref c1), .val (.ref s1), .val (.long (0 : Int64)), .second, .val (.ref c1), .val (.int (3 : Int32)), .val (.int (0 : Int32)), .val (.int (0 : Int32))] [(.long (0 : Int64))])
  refine own_st (fun t k => XS.iload X22.here hx rfl (hb hby din3_55) rfl  k) ?_
  show own_Go p e below _ T22 (mkF m 57 #[.val (.ref o1), .val (.ref r1), .val (.ref t1), .val (.ref c1), .val (.ref s1), .val (.long (0 : Int64)), .second, .val (.ref c1), .val (.int (3 : Int32)), .val (.int (0 : Int32)), .val (.int (0 : Int32))] [(.int (0 : Int32)), (.long (0 : Int64))])
  refine own_st (fun t k => XS.i2l X22.here hx rfl (hb hby din3_57) rfl k) ?_
  show own_Go p e below _ T22 (mkF m 58 #[.val (.ref o1), .val (.ref r1), .val (.ref t1), .val (.ref c1), .val (.ref s1), .val (.long (0 : Int64)), .second, .val (.ref c1), .val (.int (3 : Int32)), .val (.int (0 : Int32)), .val (.int (0 : Int32))] [(.long ((0 : Int32).toInt64)), (.long (0 : Int64))])
  refine own_st (fun t k => XS.ladd X22.here hx rfl (hb hby din3_58) rfl k) ?_
  show own_Go p e below _ T22 (mkF m 59 #[.val (.ref o1), .val (.ref r1), .val (.ref t1), .val (.ref c1), .val (.ref s1), .val (.long (0 : Int64)), .second, .val (.ref c1), .val (.int (3 : Int32)), .val (.int (0 : Int32)), .val (.int (0 : Int32))] [(.long ((0 : Int64) + ((0 : Int32).toInt64)))])
  refine own_st (fun t k => XS.lstore X22.here hx rfl (hb hby din3_59) rfl (l' := #[.val (.ref o1), .val (.ref r1), .val (.ref t1), .val (.ref c1), .val (.ref s1), .val (.long ((0 : Int64) + ((0 : Int32).toInt64))), .second, .val (.ref c1), .val (.int (3 : Int32)), .val (.int (0 : Int32)), .val (.int (0 : Int32))]) rfl k) ?_
  show own_Go p e below _ T22 (mkF m 61 #[.val (.ref o1), .val (.ref r1), .val (.ref t1), .val (.ref c1), .val (.ref s1), .val (.long ((0 : Int64) + ((0 : Int32).toInt64))), .second, .val (.ref c1), .val (.int (3 : Int32)), .val (.int (0 : Int32)), .val (.int (0 : Int32))] [])
  refine own_st (fun t k => XS.iinc X22.here hx rfl (hb hby din3_61) rfl (l' := #[.val (.ref o1), .val (.ref r1), .val (.ref t1), .val (.ref c1), .val (.ref s1), .val (.long ((0 : Int64) + ((0 : Int32).toInt64))), .second, .val (.ref c1), .val (.int (3 : Int32)), .val (.int ((0 : Int32) + (1 : Int32))), .val (.int (0 : Int32))]) rfl k) ?_
  show own_Go p e below _ T22 (mkF m 64 #[.val (.ref o1), .val (.ref r1), .val (.ref t1), .val (.ref c1), .val (.ref s1), .val (.long ((0 : Int64) + ((0 : Int32).toInt64))), .second, .val (.ref c1), .val (.int (3 : Int32)), .val (.int ((0 : Int32) + (1 : Int32))), .val (.int (0 : Int32))] [])
  show own_Go p e below _ T22 (mkF m 64 #[.val (.ref o1), .val (.ref r1), .val (.ref t1), .val (.ref c1), .val (.ref s1), .val (.long ((0 : Int64) + ((0 : Int32).toInt64))), .second, .val (.ref c1), .val (.int (3 : Int32)), .val (.int (1 : Int32)), .val (.int (0 : Int32))] [])
  refine own_st (fun t k => XS.goto X22.here hx rfl (pc0 := 64) (pc' := 39) rfl (hb hby din3_64) (by decide) (by decide) k) ?_
  show own_Go p e below _ T22 (mkF m 39 #[.val (.ref o1), .val (.ref r1), .val (.ref t1), .val (.ref c1), .val (.ref s1), .val (.long ((0 : Int64) + ((0 : Int32).toInt64))), .second, .val (.ref c1), .val (.int (3 : Int32)), .val (.int (1 : Int32)), .val (.int (0 : Int32))] [])
  refine own_st (fun t k => XS.iload X22.here hx rfl (hb hby din3_39) rfl  k) ?_
  show own_Go p e below _ T22 (mkF m 41 #[.val (.ref o1), .val (.ref r1), .val (.ref t1), .val (.ref c1), .val (.ref s1), .val (.long ((0 : Int64) + ((0 : Int32).toInt64))), .second, .val (.ref c1), .val (.int (3 : Int32)), .val (.int (1 : Int32)), .val (.int (0 : Int32))] [(.int (1 : Int32))])
  refine own_st (fun t k => XS.iload X22.here hx rfl (hb hby din3_41) rfl  k) ?_
  show own_Go p e below _ T22 (mkF m 43 #[.val (.ref o1), .val (.ref r1), .val (.ref t1), .val (.ref c1), .val (.ref s1), .val (.long ((0 : Int64) + ((0 : Int32).toInt64))), .second, .val (.ref c1), .val (.int (3 : Int32)), .val (.int (1 : Int32)), .val (.int (0 : Int32))] [(.int (3 : Int32)), (.int (1 : Int32))])
  refine own_st (fun t k => XS.icmpNo X22.here hx rfl (hb hby din3_43) rfl (tlt (by decide : (1 : Int32) < (3 : Int32))).2.1 k) ?_
  show own_Go p e below _ T22 (mkF m 46 #[.val (.ref o1), .val (.ref r1), .val (.ref t1), .val (.ref c1), .val (.ref s1), .val (.long ((0 : Int64) + ((0 : Int32).toInt64))), .second, .val (.ref c1), .val (.int (3 : Int32)), .val (.int (1 : Int32)), .val (.int (0 : Int32))] [])
  refine own_st (fun t k => XS.aload X22.here hx rfl (hb hby din3_46) rfl rfl k) ?_
  show own_Go p e below _ T22 (mkF m 48 #[.val (.ref o1), .val (.ref r1), .val (.ref t1), .val (.ref c1), .val (.ref s1), .val (.long ((0 : Int64) + ((0 : Int32).toInt64))), .second, .val (.ref c1), .val (.int (3 : Int32)), .val (.int (1 : Int32)), .val (.int (0 : Int32))] [(.ref c1)])
  refine own_st (fun t k => XS.iload X22.here hx rfl (hb hby din3_48) rfl  k) ?_
  show own_Go p e below _ T22 (mkF m 50 #[.val (.ref o1), .val (.ref r1), .val (.ref t1), .val (.ref c1), .val (.ref s1), .val (.long ((0 : Int64) + ((0 : Int32).toInt64))), .second, .val (.ref c1), .val (.int (3 : Int32)), .val (.int (1 : Int32)), .val (.int (0 : Int32))] [(.int (1 : Int32)), (.ref c1)])
  obtain ⟨cli1, Ari1, -, Si1, Mi1, Hi1, Gi1⟩ := id VC22
  have hini1 : ¬ ((1 : Int32) < 0 ∨ cli1.slots.size ≤ ((1 : Int32)).toNatClampNeg) := inb_of Si1 ⟨by decide, by decide⟩
  refine own_st (X22.iaload hx (j := (1 : Int32)) (v := (.int (0 : Int32))) (by rw [e22]; exact Ari1.1) (State.isArrayOf_alike hZ.alike Ari1.2.1) Ari1.2.2 hini1 (Has.at Hi1 hini1 rfl) (g := (mkF m 50 #[.val (.ref o1), .val (.ref r1), .val (.ref t1), .val (.ref c1), .val (.ref s1), .val (.long ((0 : Int64) + ((0 : Int32).toInt64))), .second, .val (.ref c1), .val (.int (3 : Int32)), .val (.int (1 : Int32)), .val (.int (0 : Int32))] [(.int (1 : Int32)), (.ref c1)])) rfl rfl (hb hby din3_50)) ?_
  show own_Go p e below _ T22 (mkF m 51 #[.val (.ref o1), .val (.ref r1), .val (.ref t1), .val (.ref c1), .val (.ref s1), .val (.long ((0 : Int64) + ((0 : Int32).toInt64))), .second, .val (.ref c1), .val (.int (3 : Int32)), .val (.int (1 : Int32)), .val (.int (0 : Int32))] [(.int (0 : Int32))])
  refine own_st (fun t k => XS.istore X22.here hx rfl (hb hby din3_51) rfl (l' := #[.val (.ref o1), .val (.ref r1), .val (.ref t1), .val (.ref c1), .val (.ref s1), .val (.long ((0 : Int64) + ((0 : Int32).toInt64))), .second, .val (.ref c1), .val (.int (3 : Int32)), .val (.int (1 : Int32)), .val (.int (0 : Int32))]) rfl k) ?_
  show own_Go p e below _ T22 (mkF m 53 #[.val (.ref o1), .val (.ref r1), .val (.ref t1), .val (.ref c1), .val (.ref s1), .val (.long ((0 : Int64) + ((0 : Int32).toInt64))), .second, .val (.ref c1), .val (.int (3 : Int32)), .val (.int (1 : Int32)), .val (.int (0 : Int32))] [])
  refine own_st (fun t k => XS.lload X22.here hx rfl (hb hby din3_53) rfl  k) ?_
  show own_Go p e below _ T22 (mkF m 55 #[.val (.ref o1), .val (.ref r1), .val (.ref t1), .val (.ref c1), .val (.ref s1), .val (.long ((0 : Int64) + ((0 : Int32).toInt64))), .second, .val (.ref c1), .val (.int (3 : Int32)), .val (.int (1 : Int32)), .val (.int (0 : Int32))] [(.long ((0 : Int64) + ((0 : Int32).toInt64)))])
  refine own_st (fun t k => XS.iload X22.here hx rfl (hb hby din3_55) rfl  k) ?_
  show own_Go p e below _ T22 (mkF m 57 #[.val (.ref o1), .val (.ref r1), .val (.ref t1), .val (.ref c1), .val (.ref s1), .val (.long ((0 : Int64) + ((0 : Int32).toInt64))), .second, .val (.ref c1), .val (.int (3 : Int32)), .val (.int (1 : Int32)), .val (.int (0 : Int32))] [(.int (0 : Int32)), (.long ((0 : Int64) + ((0 : Int32).toInt64)))])
  refine own_st (fun t k => XS.i2l X22.here hx rfl (hb hby din3_57) rfl k) ?_
  show own_Go p e below _ T22 (mkF m 58 #[.val (.ref o1), .val (.ref r1), .val (.ref t1), .val (.ref c1), .val (.ref s1), .val (.long ((0 : Int64) + ((0 : Int32).toInt64))), .second, .val (.ref c1), .val (.int (3 : Int32)), .val (.int (1 : Int32)), .val (.int (0 : Int32))] [(.long ((0 : Int32).toInt64)), (.long ((0 : Int64) + ((0 : Int32).toInt64)))])
  refine own_st (fun t k => XS.ladd X22.here hx rfl (hb hby din3_58) rfl k) ?_
  show own_Go p e below _ T22 (mkF m 59 #[.val (.ref o1), .val (.ref r1), .val (.ref t1), .val (.ref c1), .val (.ref s1), .val (.long ((0 : Int64) + ((0 : Int32).toInt64))), .second, .val (.ref c1), .val (.int (3 : Int32)), .val (.int (1 : Int32)), .val (.int (0 : Int32))] [(.long (((0 : Int64) + ((0 : Int32).toInt64)) + ((0 : Int32).toInt64)))])
  refine own_st (fun t k => XS.lstore X22.here hx rfl (hb hby din3_59) rfl (l' := #[.val (.ref o1), .val (.ref r1), .val (.ref t1), .val (.ref c1), .val (.ref s1), .val (.long (((0 : Int64) + ((0 : Int32).toInt64)) + ((0 : Int32).toInt64))), .second, .val (.ref c1), .val (.int (3 : Int32)), .val (.int (1 : Int32)), .val (.int (0 : Int32))]) rfl k) ?_
  show own_Go p e below _ T22 (mkF m 61 #[.val (.ref o1), .val (.ref r1), .val (.ref t1), .val (.ref c1), .val (.ref s1), .val (.long (((0 : Int64) + ((0 : Int32).toInt64)) + ((0 : Int32).toInt64))), .second, .val (.ref c1), .val (.int (3 : Int32)), .val (.int (1 : Int32)), .val (.int (0 : Int32))] [])
  refine own_st (fun t k => XS.iinc X22.here hx rfl (hb hby din3_61) rfl (l' := #[.val (.ref o1), .val (.ref r1), .val (.ref t1), .val (.ref c1), .val (.ref s1), .val (.long (((0 : Int64) + ((0 : Int32).toInt64)) + ((0 : Int32).toInt64))), .second, .val (.ref c1), .val (.int (3 : Int32)), .val (.int ((1 : Int32) + (1 : Int32))), .val (.int (0 : Int32))]) rfl k) ?_
  show own_Go p e below _ T22 (mkF m 64 #[.val (.ref o1), .val (.ref r1), .val (.ref t1), .val (.ref c1), .val (.ref s1), .val (.long (((0 : Int64) + ((0 : Int32).toInt64)) + ((0 : Int32).toInt64))), .second, .val (.ref c1), .val (.int (3 : Int32)), .val (.int ((1 : Int32) + (1 : Int32))), .val (.int (0 : Int32))] [])
  show own_Go p e below _ T22 (mkF m 64 #[.val (.ref o1), .val (.ref r1), .val (.ref t1), .val (.ref c1), .val (.ref s1), .val (.long (((0 : Int64) + ((0 : Int32).toInt64)) + ((0 : Int32).toInt64))), .second, .val (.ref c1), .val (.int (3 : Int32)), .val (.int (2 : Int32)), .val (.int (0 : Int32))] [])
  refine own_st (fun t k => XS.goto X22.here hx rfl (pc0 := 64) (pc' := 39) rfl (hb hby din3_64) (by decide) (by decide) k) ?_
  show own_Go p e below _ T22 (mkF m 39 #[.val (.ref o1), .val (.ref r1), .val (.ref t1), .val (.ref c1), .val (.ref s1), .val (.long (((0 : Int64) + ((0 : Int32).toInt64)) + ((0 : Int32).toInt64))), .second, .val (.ref c1), .val (.int (3 : Int32)), .val (.int (2 : Int32)), .val (.int (0 : Int32))] [])
  refine own_st (fun t k => XS.iload X22.here hx rfl (hb hby din3_39) rfl  k) ?_
  show own_Go p e below _ T22 (mkF m 41 #[.val (.ref o1), .val (.ref r1), .val (.ref t1), .val (.ref c1), .val (.ref s1), .val (.long (((0 : Int64) + ((0 : Int32).toInt64)) + ((0 : Int32).toInt64))), .second, .val (.ref c1), .val (.int (3 : Int32)), .val (.int (2 : Int32)), .val (.int (0 : Int32))] [(.int (2 : Int32))])
  refine own_st (fun t k => XS.iload X22.here hx rfl (hb hby din3_41) rfl  k) ?_
  show own_Go p e below _ T22 (mkF m 43 #[.val (.ref o1), .val (.ref r1), .val (.ref t1), .val (.ref c1), .val (.ref s1), .val (.long (((0 : Int64) + ((0 : Int32).toInt64)) + ((0 : Int32).toInt64))), .second, .val (.ref c1), .val (.int (3 : Int32)), .val (.int (2 : Int32)), .val (.int (0 : Int32))] [(.int (3 : Int32)), (.int (2 : Int32))])
  refine own_st (fun t k => XS.icmpNo X22.here hx rfl (hb hby din3_43) rfl (tlt (by decide : (2 : Int32) < (3 : Int32))).2.1 k) ?_
  show own_Go p e below _ T22 (mkF m 46 #[.val (.ref o1), .val (.ref r1), .val (.ref t1), .val (.ref c1), .val (.ref s1), .val (.long (((0 : Int64) + ((0 : Int32).toInt64)) + ((0 : Int32).toInt64))), .second, .val (.ref c1), .val (.int (3 : Int32)), .val (.int (2 : Int32)), .val (.int (0 : Int32))] [])
  refine own_st (fun t k => XS.aload X22.here hx rfl (hb hby din3_46) rfl rfl k) ?_
  show own_Go p e below _ T22 (mkF m 48 #[.val (.ref o1), .val (.ref r1), .val (.ref t1), .val (.ref c1), .val (.ref s1), .val (.long (((0 : Int64) + ((0 : Int32).toInt64)) + ((0 : Int32).toInt64))), .second, .val (.ref c1), .val (.int (3 : Int32)), .val (.int (2 : Int32)), .val (.int (0 : Int32))] [(.ref c1)])
  refine own_st (fun t k => XS.iload X22.here hx rfl (hb hby din3_48) rfl  k) ?_
  show own_Go p e below _ T22 (mkF m 50 #[.val (.ref o1), .val (.ref r1), .val (.ref t1), .val (.ref c1), .val (.ref s1), .val (.long (((0 : Int64) + ((0 : Int32).toInt64)) + ((0 : Int32).toInt64))), .second, .val (.ref c1), .val (.int (3 : Int32)), .val (.int (2 : Int32)), .val (.int (0 : Int32))] [(.int (2 : Int32)), (.ref c1)])
  obtain ⟨cli2, Ari2, -, Si2, Mi2, Hi2, Gi2⟩ := id VC22
  have hini2 : ¬ ((2 : Int32) < 0 ∨ cli2.slots.size ≤ ((2 : Int32)).toNatClampNeg) := inb_of Si2 ⟨by decide, by decide⟩
  refine own_st (X22.iaload hx (j := (2 : Int32)) (v := (.int (0 : Int32))) (by rw [e22]; exact Ari2.1) (State.isArrayOf_alike hZ.alike Ari2.2.1) Ari2.2.2 hini2 (Has.at Hi2 hini2 rfl) (g := (mkF m 50 #[.val (.ref o1), .val (.ref r1), .val (.ref t1), .val (.ref c1), .val (.ref s1), .val (.long (((0 : Int64) + ((0 : Int32).toInt64)) + ((0 : Int32).toInt64))), .second, .val (.ref c1), .val (.int (3 : Int32)), .val (.int (2 : Int32)), .val (.int (0 : Int32))] [(.int (2 : Int32)), (.ref c1)])) rfl rfl (hb hby din3_50)) ?_
  show own_Go p e below _ T22 (mkF m 51 #[.val (.ref o1), .val (.ref r1), .val (.ref t1), .val (.ref c1), .val (.ref s1), .val (.long (((0 : Int64) + ((0 : Int32).toInt64)) + ((0 : Int32).toInt64))), .second, .val (.ref c1), .val (.int (3 : Int32)), .val (.int (2 : Int32)), .val (.int (0 : Int32))] [(.int (0 : Int32))])
  refine own_st (fun t k => XS.istore X22.here hx rfl (hb hby din3_51) rfl (l' := #[.val (.ref o1), .val (.ref r1), .val (.ref t1), .val (.ref c1), .val (.ref s1), .val (.long (((0 : Int64) + ((0 : Int32).toInt64)) + ((0 : Int32).toInt64))), .second, .val (.ref c1), .val (.int (3 : Int32)), .val (.int (2 : Int32)), .val (.int (0 : Int32))]) rfl k) ?_
  show own_Go p e below _ T22 (mkF m 53 #[.val (.ref o1), .val (.ref r1), .val (.ref t1), .val (.ref c1), .val (.ref s1), .val (.long (((0 : Int64) + ((0 : Int32).toInt64)) + ((0 : Int32).toInt64))), .second, .val (.ref c1), .val (.int (3 : Int32)), .val (.int (2 : Int32)), .val (.int (0 : Int32))] [])
  refine own_st (fun t k => XS.lload X22.here hx rfl (hb hby din3_53) rfl  k) ?_
  show own_Go p e below _ T22 (mkF m 55 #[.val (.ref o1), .val (.ref r1), .val (.ref t1), .val (.ref c1), .val (.ref s1), .val (.long (((0 : Int64) + ((0 : Int32).toInt64)) + ((0 : Int32).toInt64))), .second, .val (.ref c1), .val (.int (3 : Int32)), .val (.int (2 : Int32)), .val (.int (0 : Int32))] [(.long (((0 : Int64) + ((0 : Int32).toInt64)) + ((0 : Int32).toInt64)))])
  refine own_st (fun t k => XS.iload X22.here hx rfl (hb hby din3_55) rfl  k) ?_
  show own_Go p e below _ T22 (mkF m 57 #[.val (.ref o1), .val (.ref r1), .val (.ref t1), .val (.ref c1), .val (.ref s1), .val (.long (((0 : Int64) + ((0 : Int32).toInt64)) + ((0 : Int32).toInt64))), .second, .val (.ref c1), .val (.int (3 : Int32)), .val (.int (2 : Int32)), .val (.int (0 : Int32))] [(.int (0 : Int32)), (.long (((0 : Int64) + ((0 : Int32).toInt64)) + ((0 : Int32).toInt64)))])
  refine own_st (fun t k => XS.i2l X22.here hx rfl (hb hby din3_57) rfl k) ?_
  show own_Go p e below _ T22 (mkF m 58 #[.val (.ref o1), .val (.ref r1), .val (.ref t1), .val (.ref c1), .val (.ref s1), .val (.long (((0 : Int64) + ((0 : Int32).toInt64)) + ((0 : Int32).toInt64))), .second, .val (.ref c1), .val (.int (3 : Int32)), .val (.int (2 : Int32)), .val (.int (0 : Int32))] [(.long ((0 : Int32).toInt64)), (.long (((0 : Int64) + ((0 : Int32).toInt64)) + ((0 : Int32).toInt64)))])
  refine own_st (fun t k => XS.ladd X22.here hx rfl (hb hby din3_58) rfl k) ?_
  show own_Go p e below _ T22 (mkF m 59 #[.val (.ref o1), .val (.ref r1), .val (.ref t1), .val (.ref c1), .val (.ref s1), .val (.long (((0 : Int64) + ((0 : Int32).toInt64)) + ((0 : Int32).toInt64))), .second, .val (.ref c1), .val (.int (3 : Int32)), .val (.int (2 : Int32)), .val (.int (0 : Int32))] [(.long ((((0 : Int64) + ((0 : Int32).toInt64)) + ((0 : Int32).toInt64)) + ((0 : Int32).toInt64)))])
  refine own_st (fun t k => XS.lstore X22.here hx rfl (hb hby din3_59) rfl (l' := #[.val (.ref o1), .val (.ref r1), .val (.ref t1), .val (.ref c1), .val (.ref s1), .val (.long ((((0 : Int64) + ((0 : Int32).toInt64)) + ((0 : Int32).toInt64)) + ((0 : Int32).toInt64))), .second, .val (.ref c1), .val (.int (3 : Int32)), .val (.int (2 : Int32)), .val (.int (0 : Int32))]) rfl k) ?_
  show own_Go p e below _ T22 (mkF m 61 #[.val (.ref o1), .val (.ref r1), .val (.ref t1), .val (.ref c1), .val (.ref s1), .val (.long ((((0 : Int64) + ((0 : Int32).toInt64)) + ((0 : Int32).toInt64)) + ((0 : Int32).toInt64))), .second, .val (.ref c1), .val (.int (3 : Int32)), .val (.int (2 : Int32)), .val (.int (0 : Int32))] [])
  refine own_st (fun t k => XS.iinc X22.here hx rfl (hb hby din3_61) rfl (l' := #[.val (.ref o1), .val (.ref r1), .val (.ref t1), .val (.ref c1), .val (.ref s1), .val (.long ((((0 : Int64) + ((0 : Int32).toInt64)) + ((0 : Int32).toInt64)) + ((0 : Int32).toInt64))), .second, .val (.ref c1), .val (.int (3 : Int32)), .val (.int ((2 : Int32) + (1 : Int32))), .val (.int (0 : Int32))]) rfl k) ?_
  show own_Go p e below _ T22 (mkF m 64 #[.val (.ref o1), .val (.ref r1), .val (.ref t1), .val (.ref c1), .val (.ref s1), .val (.long ((((0 : Int64) + ((0 : Int32).toInt64)) + ((0 : Int32).toInt64)) + ((0 : Int32).toInt64))), .second, .val (.ref c1), .val (.int (3 : Int32)), .val (.int ((2 : Int32) + (1 : Int32))), .val (.int (0 : Int32))] [])
  show own_Go p e below _ T22 (mkF m 64 #[.val (.ref o1), .val (.ref r1), .val (.ref t1), .val (.ref c1), .val (.ref s1), .val (.long ((((0 : Int64) + ((0 : Int32).toInt64)) + ((0 : Int32).toInt64)) + ((0 : Int32).toInt64))), .second, .val (.ref c1), .val (.int (3 : Int32)), .val (.int (3 : Int32)), .val (.int (0 : Int32))] [])
  refine own_st (fun t k => XS.goto X22.here hx rfl (pc0 := 64) (pc' := 39) rfl (hb hby din3_64) (by decide) (by decide) k) ?_
  show own_Go p e below _ T22 (mkF m 39 #[.val (.ref o1), .val (.ref r1), .val (.ref t1), .val (.ref c1), .val (.ref s1), .val (.long ((((0 : Int64) + ((0 : Int32).toInt64)) + ((0 : Int32).toInt64)) + ((0 : Int32).toInt64))), .second, .val (.ref c1), .val (.int (3 : Int32)), .val (.int (3 : Int32)), .val (.int (0 : Int32))] [])
  refine own_st (fun t k => XS.iload X22.here hx rfl (hb hby din3_39) rfl  k) ?_
  show own_Go p e below _ T22 (mkF m 41 #[.val (.ref o1), .val (.ref r1), .val (.ref t1), .val (.ref c1), .val (.ref s1), .val (.long ((((0 : Int64) + ((0 : Int32).toInt64)) + ((0 : Int32).toInt64)) + ((0 : Int32).toInt64))), .second, .val (.ref c1), .val (.int (3 : Int32)), .val (.int (3 : Int32)), .val (.int (0 : Int32))] [(.int (3 : Int32))])
  refine own_st (fun t k => XS.iload X22.here hx rfl (hb hby din3_41) rfl  k) ?_
  show own_Go p e below _ T22 (mkF m 43 #[.val (.ref o1), .val (.ref r1), .val (.ref t1), .val (.ref c1), .val (.ref s1), .val (.long ((((0 : Int64) + ((0 : Int32).toInt64)) + ((0 : Int32).toInt64)) + ((0 : Int32).toInt64))), .second, .val (.ref c1), .val (.int (3 : Int32)), .val (.int (3 : Int32)), .val (.int (0 : Int32))] [(.int (3 : Int32)), (.int (3 : Int32))])
  refine own_st (fun t k => XS.icmpYes X22.here hx rfl (pc0 := 43) (pc' := 67) rfl (hb hby din3_43) rfl (flt (by decide : ¬ (3 : Int32) < (3 : Int32))).2.1 (by decide) (by decide) k) ?_
  show own_Go p e below _ T22 (mkF m 67 #[.val (.ref o1), .val (.ref r1), .val (.ref t1), .val (.ref c1), .val (.ref s1), .val (.long ((((0 : Int64) + ((0 : Int32).toInt64)) + ((0 : Int32).toInt64)) + ((0 : Int32).toInt64))), .second, .val (.ref c1), .val (.int (3 : Int32)), .val (.int (3 : Int32)), .val (.int (0 : Int32))] [])
  refine own_st (fun t k => XS.aloadN X22.here hx rfl (hb hby din3_67) rfl rfl k) ?_
  show own_Go p e below _ T22 (mkF m 68 #[.val (.ref o1), .val (.ref r1), .val (.ref t1), .val (.ref c1), .val (.ref s1), .val (.long ((((0 : Int64) + ((0 : Int32).toInt64)) + ((0 : Int32).toInt64)) + ((0 : Int32).toInt64))), .second, .val (.ref c1), .val (.int (3 : Int32)), .val (.int (3 : Int32)), .val (.int (0 : Int32))] [(.ref o1)])
  refine own_st (fun t k => XS.lload X22.here hx rfl (hb hby din3_68) rfl  k) ?_
  show own_Go p e below _ T22 (mkF m 70 #[.val (.ref o1), .val (.ref r1), .val (.ref t1), .val (.ref c1), .val (.ref s1), .val (.long ((((0 : Int64) + ((0 : Int32).toInt64)) + ((0 : Int32).toInt64)) + ((0 : Int32).toInt64))), .second, .val (.ref c1), .val (.int (3 : Int32)), .val (.int (3 : Int32)), .val (.int (0 : Int32))] [(.long ((((0 : Int64) + ((0 : Int32).toInt64)) + ((0 : Int32).toInt64)) + ((0 : Int32).toInt64))), (.ref o1)])
  obtain ⟨T70, h70, X70, e70, W70, st70⟩ := putF X22 hx hZ hown (host := "") (Or.inl (hw _ (List.mem_of_getElem? (i := 26) rfl))) Via.refl e22 F22_collectionCount E22_o (Or.inr ⟨(hw _ (List.mem_of_getElem? (i := 27) rfl)), rfl, hnm⟩) (hw _ (List.mem_of_getElem? (i := 9) rfl)) (ty := .long) (by decide) rfl rfl (g := (mkF m 70 #[.val (.ref o1), .val (.ref r1), .val (.ref t1), .val (.ref c1), .val (.ref s1), .val (.long ((((0 : Int64) + ((0 : Int32).toInt64)) + ((0 : Int32).toInt64)) + ((0 : Int32).toInt64))), .second, .val (.ref c1), .val (.int (3 : Int32)), .val (.int (3 : Int32)), .val (.int (0 : Int32))] [(.long ((((0 : Int64) + ((0 : Int32).toInt64)) + ((0 : Int32).toInt64)) + ((0 : Int32).toInt64))), (.ref o1)])) rfl rfl (hb hby din3_70)
  refine own_st st70 ?_
  have N70 := Fr.snoc X70 N22 ge
  have E70_o := E22_o.wr W70
  have F70_resources := F22_resources.other W70 (Or.inr (slot_ne (Or.inr (hw _ (List.mem_of_getElem? (i := 19) rfl))) (Or.inr (hw _ (List.mem_of_getElem? (i := 27) rfl))) (by decide) (t := (.array .int)) (t' := .long) (by decide) (by decide)))
  have F70_titleCounts := F22_titleCounts.other W70 (Or.inr (slot_ne (Or.inr (hw _ (List.mem_of_getElem? (i := 21) rfl))) (Or.inr (hw _ (List.mem_of_getElem? (i := 27) rfl))) (by decide) (t := (.array .int)) (t' := .long) (by decide) (by decide)))
  have F70_contentCounts := F22_contentCounts.other W70 (Or.inr (slot_ne (Or.inr (hw _ (List.mem_of_getElem? (i := 23) rfl))) (Or.inr (hw _ (List.mem_of_getElem? (i := 27) rfl))) (by decide) (t := (.array .int)) (t' := .long) (by decide) (by decide)))
  have F70_inStructure := F22_inStructure.other W70 (Or.inr (slot_ne (Or.inr (hw _ (List.mem_of_getElem? (i := 25) rfl))) (Or.inr (hw _ (List.mem_of_getElem? (i := 27) rfl))) (by decide) (t := (.array .boolean)) (t' := .long) (by decide) (by decide)))
  have F70_collectionCount := F22_collectionCount.same W70
  have K70 : Keep h0 h70 [o1] := K22.wr W70 (Or.inl (List.mem_of_getElem? (i := 0) rfl))
  show own_Go p e below _ T70 (mkF m 73 #[.val (.ref o1), .val (.ref r1), .val (.ref t1), .val (.ref c1), .val (.ref s1), .val (.long ((((0 : Int64) + ((0 : Int32).toInt64)) + ((0 : Int32).toInt64)) + ((0 : Int32).toInt64))), .second, .val (.ref c1), .val (.int (3 : Int32)), .val (.int (3 : Int32)), .val (.int (0 : Int32))] [])
  refine own_retV X70 hx hlk hret (hb hby din3_73) ?_ (by decide) (by decide)
  rw [e70]
  exact ⟨rfl, N70, K70, E70_o, F70_resources⟩
theorem pn_2 : plainName "com/example/rank3/rank3/text/PostingsIndexOfPinLaw" = true := by first | (simp [plainName, overriddenIn]; done) | decide +kernel
theorem ef (m : MethodId) (x0 : Int32) (x1 : Int32) (x2 : Int32) (x3 : Int32) (x4 : Int32) : entryFrame m #[(.int x0), (.int x1), (.int x2), (.int x3), (.int x4)] maxLocals = mkF m 0 #[.val (.int x0), .val (.int x1), .val (.int x2), .val (.int x3), .val (.int x4), .unset, .unset, .unset, .unset, .unset, .unset, .unset, .unset, .unset, .unset] [] := by first | (simp [entryFrame, mkF, argsToLocals, Value.category, maxLocals]; done) | rfl
theorem pd_2 : parseMethodDescriptor "(II)I" = some ⟨[.int, .int], some .int⟩ := by decide +kernel
theorem pd_3 : parseMethodDescriptor "([I[I[I[Z)V" = some ⟨[(.array .int), (.array .int), (.array .int), (.array .boolean)], none⟩ := by decide +kernel
theorem pd_4 : parseMethodDescriptor "(I)I" = some ⟨[.int], some .int⟩ := by decide +kernel
set_option maxRecDepth 65536 in
set_option maxHeartbeats 40000000 in
theorem rm0 (l : Launch) (Z : State) (a0 : Array Value) (hw : ∀ d ∈ tables_1, d.before a0 Z = true) (ws : List Jvm.Cond) (p1 : Int32) (p2 : Int32) (p3 : Int32) (p4 : Int32) (p5 : Int32) (h0 : Heap) (n0 : Nat) (Z0 : n0 ≤ h0.size) :
    own_Met l Z ws x code maxLocals ret room_1 #[(.int p1), (.int p2), (.int p3), (.int p4), (.int p5)] h0 (fun v h L => v = some (.int 1) ∧ Fr n0 L) := by
  refine own_body (plainFor_of_name pn_2) ?_
  intro p e s m below meth c s₁ hx hby hml hret hlk hown hnm hZ X0 e0
  have hml : c.maxLocals = 15 := hml
  have hown : s.vm.findClass "com/example/rank3/rank3/text/PostingsIndexOfPinLaw" = some m.cls := hown
  have N0 := Fr.nil n0
  refine own_cast (ef m p1 p2 p3 p4 p5) ?_
  show own_Go p e below _ s₁ (mkF m 0 #[.val (.int p1), .val (.int p2), .val (.int p3), .val (.int p4), .val (.int p5), .unset, .unset, .unset, .unset, .unset, .unset, .unset, .unset, .unset, .unset] [])
  refine own_st (fun t k => XS.iloadN X0.here hx rfl (hb hby at_0) rfl  k) ?_
  show own_Go p e below _ s₁ (mkF m 1 #[.val (.int p1), .val (.int p2), .val (.int p3), .val (.int p4), .val (.int p5), .unset, .unset, .unset, .unset, .unset, .unset, .unset, .unset, .unset, .unset] [(.int p1)])
  refine own_st (fun t k => XS.iloadN X0.here hx rfl (hb hby at_1) rfl  k) ?_
  show own_Go p e below _ s₁ (mkF m 2 #[.val (.int p1), .val (.int p2), .val (.int p3), .val (.int p4), .val (.int p5), .unset, .unset, .unset, .unset, .unset, .unset, .unset, .unset, .unset, .unset] [(.int p2), (.int p1)])
  refine own_callS X0 hx hZ (y := (⟨"java/lang/Math", "min", "(II)I"⟩ : MethodName)) (W := 0) (kc := 0) (ks := 0) hown (hw _ (List.mem_of_getElem? (i := 0) rfl)) (hw _ (List.mem_of_getElem? (i := 1) rfl)) (hw _ (List.mem_of_getElem? (i := 2) rfl)) (hw _ (List.mem_of_getElem? (i := 3) rfl)) (own_back (W := 0) (rm_min l Z a0 hw [] p1 p2 h0 n0 Z0) hZ (hw _ (List.mem_of_getElem? (i := 3) rfl)) (hw _ (List.mem_of_getElem? (i := 2) rfl)) (by decide) (by decide)) (by decide) (g := (mkF m 2 #[.val (.int p1), .val (.int p2), .val (.int p3), .val (.int p4), .val (.int p5), .unset, .unset, .unset, .unset, .unset, .unset, .unset, .unset, .unset, .unset] [(.int p2), (.int p1)])) rfl (by rw [hml]; rfl) (argsL := [(.int p1), (.int p2)]) (rest := []) (lenOf pd_2 rfl) rfl (by show 2 * 0 + _ ≤ _; exact Nat.le_of_eq rfl) (hb hby at_2) rfl e0 (by decide) (by decide) (fun v2 T2 L2 X2 hQ2 => ?_)
  obtain ⟨rfl, M1, k1⟩ := hQ2
  have Q1 := Fr.app N0 M1
  show own_Go p e below _ T2 (mkF m 5 #[.val (.int p1), .val (.int p2), .val (.int p3), .val (.int p4), .val (.int p5), .unset, .unset, .unset, .unset, .unset, .unset, .unset, .unset, .unset, .unset] [(.int (own_min p1 p2))])
  refine own_st (fun t k => XS.iloadN X2.here hx rfl (hb hby at_5) rfl  k) ?_
  show own_Go p e below _ T2 (mkF m 6 #[.val (.int p1), .val (.int p2), .val (.int p3), .val (.int p4), .val (.int p5), .unset, .unset, .unset, .unset, .unset, .unset, .unset, .unset, .unset, .unset] [(.int p3), (.int (own_min p1 p2))])
  refine own_callS X2 hx hZ (y := (⟨"java/lang/Math", "min", "(II)I"⟩ : MethodName)) (W := 0) (kc := 0) (ks := 0) hown (hw _ (List.mem_of_getElem? (i := 0) rfl)) (hw _ (List.mem_of_getElem? (i := 1) rfl)) (hw _ (List.mem_of_getElem? (i := 2) rfl)) (hw _ (List.mem_of_getElem? (i := 3) rfl)) (own_back (W := 0) (rm_min l Z a0 hw [] (own_min p1 p2) p3 h0 n0 Z0) hZ (hw _ (List.mem_of_getElem? (i := 3) rfl)) (hw _ (List.mem_of_getElem? (i := 2) rfl)) (by decide) (by decide)) (by decide) (g := (mkF m 6 #[.val (.int p1), .val (.int p2), .val (.int p3), .val (.int p4), .val (.int p5), .unset, .unset, .unset, .unset, .unset, .unset, .unset, .unset, .unset, .unset] [(.int p3), (.int (own_min p1 p2))])) rfl (by rw [hml]; rfl) (argsL := [(.int (own_min p1 p2)), (.int p3)]) (rest := []) (lenOf pd_2 rfl) rfl (by show 2 * 0 + _ ≤ _; exact Nat.le_of_eq rfl) (hb hby at_6) rfl k1 (by decide) (by decide) (fun v6 T6 L6 X6 hQ6 => ?_)
  obtain ⟨rfl, M2, k2⟩ := hQ6
  have Q2 := Fr.app Q1 M2
  show own_Go p e below _ T6 (mkF m 9 #[.val (.int p1), .val (.int p2), .val (.int p3), .val (.int p4), .val (.int p5), .unset, .unset, .unset, .unset, .unset, .unset, .unset, .unset, .unset, .unset] [(.int (own_min (own_min p1 p2) p3))])
  refine own_st (fun t k => XS.istore X6.here hx rfl (hb hby at_9) rfl (l' := #[.val (.int p1), .val (.int p2), .val (.int p3), .val (.int p4), .val (.int p5), .val (.int (own_min (own_min p1 p2) p3)), .unset, .unset, .unset, .unset, .unset, .unset, .unset, .unset, .unset]) rfl k) ?_
  show own_Go p e below _ T6 (mkF m 11 #[.val (.int p1), .val (.int p2), .val (.int p3), .val (.int p4), .val (.int p5), .val (.int (own_min (own_min p1 p2) p3)), .unset, .unset, .unset, .unset, .unset, .unset, .unset, .unset, .unset] [])
  refine own_st (fun t k => XS.iloadN X6.here hx rfl (hb hby at_11) rfl  k) ?_
  show own_Go p e below _ T6 (mkF m 12 #[.val (.int p1), .val (.int p2), .val (.int p3), .val (.int p4), .val (.int p5), .val (.int (own_min (own_min p1 p2) p3)), .unset, .unset, .unset, .unset, .unset, .unset, .unset, .unset, .unset] [(.int p1)])
  refine own_st (fun t k => XS.iloadN X6.here hx rfl (hb hby at_12) rfl  k) ?_
  show own_Go p e below _ T6 (mkF m 13 #[.val (.int p1), .val (.int p2), .val (.int p3), .val (.int p4), .val (.int p5), .val (.int (own_min (own_min p1 p2) p3)), .unset, .unset, .unset, .unset, .unset, .unset, .unset, .unset, .unset] [(.int p2), (.int p1)])
  refine own_callS X6 hx hZ (y := (⟨"java/lang/Math", "max", "(II)I"⟩ : MethodName)) (W := 0) (kc := 0) (ks := 0) hown (hw _ (List.mem_of_getElem? (i := 4) rfl)) (hw _ (List.mem_of_getElem? (i := 5) rfl)) (hw _ (List.mem_of_getElem? (i := 2) rfl)) (hw _ (List.mem_of_getElem? (i := 6) rfl)) (own_back (W := 0) (rm_max l Z a0 hw [] p1 p2 h0 n0 Z0) hZ (hw _ (List.mem_of_getElem? (i := 6) rfl)) (hw _ (List.mem_of_getElem? (i := 2) rfl)) (by decide) (by decide)) (by decide) (g := (mkF m 13 #[.val (.int p1), .val (.int p2), .val (.int p3), .val (.int p4), .val (.int p5), .val (.int (own_min (own_min p1 p2) p3)), .unset, .unset, .unset, .unset, .unset, .unset, .unset, .unset, .unset] [(.int p2), (.int p1)])) rfl (by rw [hml]; rfl) (argsL := [(.int p1), (.int p2)]) (rest := []) (lenOf pd_2 rfl) rfl (by show 2 * 0 + _ ≤ _; exact Nat.le_of_eq rfl) (hb hby at_13) rfl k2 (by decide) (by decide) (fun v13 T13 L13 X13 hQ13 => ?_)
  obtain ⟨rfl, M3, k3⟩ := hQ13
  have Q3 := Fr.app Q2 M3
  show own_Go p e below _ T13 (mkF m 16 #[.val (.int p1), .val (.int p2), .val (.int p3), .val (.int p4), .val (.int p5), .val (.int (own_min (own_min p1 p2) p3)), .unset, .unset, .unset, .unset, .unset, .unset, .unset, .unset, .unset] [(.int (own_max p1 p2))])
  refine own_st (fun t k => XS.iloadN X13.here hx rfl (hb hby at_16) rfl  k) ?_
  show own_Go p e below _ T13 (mkF m 17 #[.val (.int p1), .val (.int p2), .val (.int p3), .val (.int p4), .val (.int p5), .val (.int (own_min (own_min p1 p2) p3)), .unset, .unset, .unset, .unset, .unset, .unset, .unset, .unset, .unset] [(.int p3), (.int (own_max p1 p2))])
  refine own_callS X13 hx hZ (y := (⟨"java/lang/Math", "max", "(II)I"⟩ : MethodName)) (W := 0) (kc := 0) (ks := 0) hown (hw _ (List.mem_of_getElem? (i := 4) rfl)) (hw _ (List.mem_of_getElem? (i := 5) rfl)) (hw _ (List.mem_of_getElem? (i := 2) rfl)) (hw _ (List.mem_of_getElem? (i := 6) rfl)) (own_back (W := 0) (rm_max l Z a0 hw [] (own_max p1 p2) p3 h0 n0 Z0) hZ (hw _ (List.mem_of_getElem? (i := 6) rfl)) (hw _ (List.mem_of_getElem? (i := 2) rfl)) (by decide) (by decide)) (by decide) (g := (mkF m 17 #[.val (.int p1), .val (.int p2), .val (.int p3), .val (.int p4), .val (.int p5), .val (.int (own_min (own_min p1 p2) p3)), .unset, .unset, .unset, .unset, .unset, .unset, .unset, .unset, .unset] [(.int p3), (.int (own_max p1 p2))])) rfl (by rw [hml]; rfl) (argsL := [(.int (own_max p1 p2)), (.int p3)]) (rest := []) (lenOf pd_2 rfl) rfl (by show 2 * 0 + _ ≤ _; exact Nat.le_of_eq rfl) (hb hby at_17) rfl k3 (by decide) (by decide) (fun v17 T17 L17 X17 hQ17 => ?_)
  obtain ⟨rfl, M4, k4⟩ := hQ17
  have Q4 := Fr.app Q3 M4
  show own_Go p e below _ T17 (mkF m 20 #[.val (.int p1), .val (.int p2), .val (.int p3), .val (.int p4), .val (.int p5), .val (.int (own_min (own_min p1 p2) p3)), .unset, .unset, .unset, .unset, .unset, .unset, .unset, .unset, .unset] [(.int (own_max (own_max p1 p2) p3))])
  refine own_st (fun t k => XS.istore X17.here hx rfl (hb hby at_20) rfl (l' := #[.val (.int p1), .val (.int p2), .val (.int p3), .val (.int p4), .val (.int p5), .val (.int (own_min (own_min p1 p2) p3)), .val (.int (own_max (own_max p1 p2) p3)), .unset, .unset, .unset, .unset, .unset, .unset, .unset, .unset]) rfl k) ?_
  show own_Go p e below _ T17 (mkF m 22 #[.val (.int p1), .val (.int p2), .val (.int p3), .val (.int p4), .val (.int p5), .val (.int (own_min (own_min p1 p2) p3)), .val (.int (own_max (own_max p1 p2) p3)), .unset, .unset, .unset, .unset, .unset, .unset, .unset, .unset] [])
  refine own_st (fun t k => XS.iloadN X17.here hx rfl (hb hby at_22) rfl  k) ?_
  show own_Go p e below _ T17 (mkF m 23 #[.val (.int p1), .val (.int p2), .val (.int p3), .val (.int p4), .val (.int p5), .val (.int (own_min (own_min p1 p2) p3)), .val (.int (own_max (own_max p1 p2) p3)), .unset, .unset, .unset, .unset, .unset, .unset, .unset, .unset] [(.int p1)])
  refine own_st (fun t k => XS.iloadN X17.here hx rfl (hb hby at_23) rfl  k) ?_
  show own_Go p e below _ T17 (mkF m 24 #[.val (.int p1), .val (.int p2), .val (.int p3), .val (.int p4), .val (.int p5), .val (.int (own_min (own_min p1 p2) p3)), .val (.int (own_max (own_max p1 p2) p3)), .unset, .unset, .unset, .unset, .unset, .unset, .unset, .unset] [(.int p2), (.int p1)])
  refine own_st (fun t k => XS.iadd X17.here hx rfl (hb hby at_24) rfl k) ?_
  show own_Go p e below _ T17 (mkF m 25 #[.val (.int p1), .val (.int p2), .val (.int p3), .val (.int p4), .val (.int p5), .val (.int (own_min (own_min p1 p2) p3)), .val (.int (own_max (own_max p1 p2) p3)), .unset, .unset, .unset, .unset, .unset, .unset, .unset, .unset] [(.int (p1 + p2))])
  refine own_st (fun t k => XS.iloadN X17.here hx rfl (hb hby at_25) rfl  k) ?_
  show own_Go p e below _ T17 (mkF m 26 #[.val (.int p1), .val (.int p2), .val (.int p3), .val (.int p4), .val (.int p5), .val (.int (own_min (own_min p1 p2) p3)), .val (.int (own_max (own_max p1 p2) p3)), .unset, .unset, .unset, .unset, .unset, .unset, .unset, .unset] [(.int p3), (.int (p1 + p2))])
  refine own_st (fun t k => XS.iadd X17.here hx rfl (hb hby at_26) rfl k) ?_
  show own_Go p e below _ T17 (mkF m 27 #[.val (.int p1), .val (.int p2), .val (.int p3), .val (.int p4), .val (.int p5), .val (.int (own_min (own_min p1 p2) p3)), .val (.int (own_max (own_max p1 p2) p3)), .unset, .unset, .unset, .unset, .unset, .unset, .unset, .unset] [(.int ((p1 + p2) + p3))])
  refine own_st (fun t k => XS.iload X17.here hx rfl (hb hby at_27) rfl  k) ?_
  show own_Go p e below _ T17 (mkF m 29 #[.val (.int p1), .val (.int p2), .val (.int p3), .val (.int p4), .val (.int p5), .val (.int (own_min (own_min p1 p2) p3)), .val (.int (own_max (own_max p1 p2) p3)), .unset, .unset, .unset, .unset, .unset, .unset, .unset, .unset] [(.int (own_min (own_min p1 p2) p3)), (.int ((p1 + p2) + p3))])
  refine own_st (fun t k => XS.isub X17.here hx rfl (hb hby at_29) rfl k) ?_
  show own_Go p e below _ T17 (mkF m 30 #[.val (.int p1), .val (.int p2), .val (.int p3), .val (.int p4), .val (.int p5), .val (.int (own_min (own_min p1 p2) p3)), .val (.int (own_max (own_max p1 p2) p3)), .unset, .unset, .unset, .unset, .unset, .unset, .unset, .unset] [(.int (((p1 + p2) + p3) - (own_min (own_min p1 p2) p3)))])
  refine own_st (fun t k => XS.iload X17.here hx rfl (hb hby at_30) rfl  k) ?_
  show own_Go p e below _ T17 (mkF m 32 #[.val (.int p1), .val (.int p2), .val (.int p3), .val (.int p4), .val (.int p5), .val (.int (own_min (own_min p1 p2) p3)), .val (.int (own_max (own_max p1 p2) p3)), .unset, .unset, .unset, .unset, .unset, .unset, .unset, .unset] [(.int (own_max (own_max p1 p2) p3)), (.int (((p1 + p2) + p3) - (own_min (own_min p1 p2) p3)))])
  refine own_st (fun t k => XS.isub X17.here hx rfl (hb hby at_32) rfl k) ?_
  show own_Go p e below _ T17 (mkF m 33 #[.val (.int p1), .val (.int p2), .val (.int p3), .val (.int p4), .val (.int p5), .val (.int (own_min (own_min p1 p2) p3)), .val (.int (own_max (own_max p1 p2) p3)), .unset, .unset, .unset, .unset, .unset, .unset, .unset, .unset] [(.int ((((p1 + p2) + p3) - (own_min (own_min p1 p2) p3)) - (own_max (own_max p1 p2) p3)))])
  refine own_st (fun t k => XS.istore X17.here hx rfl (hb hby at_33) rfl (l' := #[.val (.int p1), .val (.int p2), .val (.int p3), .val (.int p4), .val (.int p5), .val (.int (own_min (own_min p1 p2) p3)), .val (.int (own_max (own_max p1 p2) p3)), .val (.int ((((p1 + p2) + p3) - (own_min (own_min p1 p2) p3)) - (own_max (own_max p1 p2) p3))), .unset, .unset, .unset, .unset, .unset, .unset, .unset]) rfl k) ?_
  show own_Go p e below _ T17 (mkF m 35 #[.val (.int p1), .val (.int p2), .val (.int p3), .val (.int p4), .val (.int p5), .val (.int (own_min (own_min p1 p2) p3)), .val (.int (own_max (own_max p1 p2) p3)), .val (.int ((((p1 + p2) + p3) - (own_min (own_min p1 p2) p3)) - (own_max (own_max p1 p2) p3))), .unset, .unset, .unset, .unset, .unset, .unset, .unset] [])
  refine own_st (fun t k => XS.iload X17.here hx rfl (hb hby at_35) rfl  k) ?_
  show own_Go p e below _ T17 (mkF m 37 #[.val (.int p1), .val (.int p2), .val (.int p3), .val (.int p4), .val (.int p5), .val (.int (own_min (own_min p1 p2) p3)), .val (.int (own_max (own_max p1 p2) p3)), .val (.int ((((p1 + p2) + p3) - (own_min (own_min p1 p2) p3)) - (own_max (own_max p1 p2) p3))), .unset, .unset, .unset, .unset, .unset, .unset, .unset] [(.int (own_min (own_min p1 p2) p3))])
  refine own_st (fun t k => XS.iload X17.here hx rfl (hb hby at_37) rfl  k) ?_
  show own_Go p e below _ T17 (mkF m 39 #[.val (.int p1), .val (.int p2), .val (.int p3), .val (.int p4), .val (.int p5), .val (.int (own_min (own_min p1 p2) p3)), .val (.int (own_max (own_max p1 p2) p3)), .val (.int ((((p1 + p2) + p3) - (own_min (own_min p1 p2) p3)) - (own_max (own_max p1 p2) p3))), .unset, .unset, .unset, .unset, .unset, .unset, .unset] [(.int ((((p1 + p2) + p3) - (own_min (own_min p1 p2) p3)) - (own_max (own_max p1 p2) p3))), (.int (own_min (own_min p1 p2) p3))])
  by_cases hA : (own_min (own_min p1 p2) p3) = ((((p1 + p2) + p3) - (own_min (own_min p1 p2) p3)) - (own_max (own_max p1 p2) p3))
  · refine own_st (fun t k => XS.icmpYes X17.here hx rfl (pc0 := 39) (pc' := 49) rfl (hb hby at_39) rfl (teq hA).1 (by decide) (by decide) k) ?_
    show own_Go p e below _ T17 (mkF m 49 #[.val (.int p1), .val (.int p2), .val (.int p3), .val (.int p4), .val (.int p5), .val (.int (own_min (own_min p1 p2) p3)), .val (.int (own_max (own_max p1 p2) p3)), .val (.int ((((p1 + p2) + p3) - (own_min (own_min p1 p2) p3)) - (own_max (own_max p1 p2) p3))), .unset, .unset, .unset, .unset, .unset, .unset, .unset] [])
    refine own_st (fun t k => XS.iconst X17.here hx rfl (hb hby at_49) k) ?_
    show own_Go p e below _ T17 (mkF m 50 #[.val (.int p1), .val (.int p2), .val (.int p3), .val (.int p4), .val (.int p5), .val (.int (own_min (own_min p1 p2) p3)), .val (.int (own_max (own_max p1 p2) p3)), .val (.int ((((p1 + p2) + p3) - (own_min (own_min p1 p2) p3)) - (own_max (own_max p1 p2) p3))), .unset, .unset, .unset, .unset, .unset, .unset, .unset] [(.int (1 : Int32))])
    refine own_retN (t := .boolean) X17 hx hlk hret (by simp) (hb hby at_50) ?_ (by decide) (by decide)
    exact ⟨rfl, Q4⟩
  · refine own_st (fun t k => XS.icmpNo X17.here hx rfl (hb hby at_39) rfl (feq hA).1 k) ?_
    show own_Go p e below _ T17 (mkF m 42 #[.val (.int p1), .val (.int p2), .val (.int p3), .val (.int p4), .val (.int p5), .val (.int (own_min (own_min p1 p2) p3)), .val (.int (own_max (own_max p1 p2) p3)), .val (.int ((((p1 + p2) + p3) - (own_min (own_min p1 p2) p3)) - (own_max (own_max p1 p2) p3))), .unset, .unset, .unset, .unset, .unset, .unset, .unset] [])
    refine own_st (fun t k => XS.iload X17.here hx rfl (hb hby at_42) rfl  k) ?_
    show own_Go p e below _ T17 (mkF m 44 #[.val (.int p1), .val (.int p2), .val (.int p3), .val (.int p4), .val (.int p5), .val (.int (own_min (own_min p1 p2) p3)), .val (.int (own_max (own_max p1 p2) p3)), .val (.int ((((p1 + p2) + p3) - (own_min (own_min p1 p2) p3)) - (own_max (own_max p1 p2) p3))), .unset, .unset, .unset, .unset, .unset, .unset, .unset] [(.int ((((p1 + p2) + p3) - (own_min (own_min p1 p2) p3)) - (own_max (own_max p1 p2) p3)))])
    refine own_st (fun t k => XS.iload X17.here hx rfl (hb hby at_44) rfl  k) ?_
    show own_Go p e below _ T17 (mkF m 46 #[.val (.int p1), .val (.int p2), .val (.int p3), .val (.int p4), .val (.int p5), .val (.int (own_min (own_min p1 p2) p3)), .val (.int (own_max (own_max p1 p2) p3)), .val (.int ((((p1 + p2) + p3) - (own_min (own_min p1 p2) p3)) - (own_max (own_max p1 p2) p3))), .unset, .unset, .unset, .unset, .unset, .unset, .unset] [(.int (own_max (own_max p1 p2) p3)), (.int ((((p1 + p2) + p3) - (own_min (own_min p1 p2) p3)) - (own_max (own_max p1 p2) p3)))])
    by_cases hB : ((((p1 + p2) + p3) - (own_min (own_min p1 p2) p3)) - (own_max (own_max p1 p2) p3)) = (own_max (own_max p1 p2) p3)
    · refine own_st (fun t k => XS.icmpNo X17.here hx rfl (hb hby at_46) rfl (teq hB).2 k) ?_
      show own_Go p e below _ T17 (mkF m 49 #[.val (.int p1), .val (.int p2), .val (.int p3), .val (.int p4), .val (.int p5), .val (.int (own_min (own_min p1 p2) p3)), .val (.int (own_max (own_max p1 p2) p3)), .val (.int ((((p1 + p2) + p3) - (own_min (own_min p1 p2) p3)) - (own_max (own_max p1 p2) p3))), .unset, .unset, .unset, .unset, .unset, .unset, .unset] [])
      refine own_st (fun t k => XS.iconst X17.here hx rfl (hb hby at_49) k) ?_
      show own_Go p e below _ T17 (mkF m 50 #[.val (.int p1), .val (.int p2), .val (.int p3), .val (.int p4), .val (.int p5), .val (.int (own_min (own_min p1 p2) p3)), .val (.int (own_max (own_max p1 p2) p3)), .val (.int ((((p1 + p2) + p3) - (own_min (own_min p1 p2) p3)) - (own_max (own_max p1 p2) p3))), .unset, .unset, .unset, .unset, .unset, .unset, .unset] [(.int (1 : Int32))])
      refine own_retN (t := .boolean) X17 hx hlk hret (by simp) (hb hby at_50) ?_ (by decide) (by decide)
      exact ⟨rfl, Q4⟩
    · refine own_st (fun t k => XS.icmpYes X17.here hx rfl (pc0 := 46) (pc' := 51) rfl (hb hby at_46) rfl (feq hB).2 (by decide) (by decide) k) ?_
      show own_Go p e below _ T17 (mkF m 51 #[.val (.int p1), .val (.int p2), .val (.int p3), .val (.int p4), .val (.int p5), .val (.int (own_min (own_min p1 p2) p3)), .val (.int (own_max (own_max p1 p2) p3)), .val (.int ((((p1 + p2) + p3) - (own_min (own_min p1 p2) p3)) - (own_max (own_max p1 p2) p3))), .unset, .unset, .unset, .unset, .unset, .unset, .unset] [])
      obtain ⟨h01, h12⟩ := own_med p1 p2 p3 hA hB
      generalize p1 + p2 + p3 - own_min (own_min p1 p2) p3 - own_max (own_max p1 p2) p3 = x1 at h01 h12 hA hB ⊢
      generalize own_max (own_max p1 p2) p3 = x2 at h12 hB ⊢
      generalize own_min (own_min p1 p2) p3 = x0 at h01 hA ⊢
      show own_Go p e below _ T17 (mkF m 51 #[.val (.int p1), .val (.int p2), .val (.int p3), .val (.int p4), .val (.int p5), .val (.int x0), .val (.int x2), .val (.int x1), .unset, .unset, .unset, .unset, .unset, .unset, .unset] [])
      refine own_st (fun t k => XS.iload X17.here hx rfl (hb hby at_51) rfl  k) ?_
      show own_Go p e below _ T17 (mkF m 53 #[.val (.int p1), .val (.int p2), .val (.int p3), .val (.int p4), .val (.int p5), .val (.int x0), .val (.int x2), .val (.int x1), .unset, .unset, .unset, .unset, .unset, .unset, .unset] [(.int p5)])
      refine own_st (fun t k => XS.iconst X17.here hx rfl (hb hby at_53) k) ?_
      show own_Go p e below _ T17 (mkF m 54 #[.val (.int p1), .val (.int p2), .val (.int p3), .val (.int p4), .val (.int p5), .val (.int x0), .val (.int x2), .val (.int x1), .unset, .unset, .unset, .unset, .unset, .unset, .unset] [(.int (3 : Int32)), (.int p5)])
      refine own_st (fun t k => XS.iand X17.here hx rfl (hb hby at_54) rfl k) ?_
      show own_Go p e below _ T17 (mkF m 55 #[.val (.int p1), .val (.int p2), .val (.int p3), .val (.int p4), .val (.int p5), .val (.int x0), .val (.int x2), .val (.int x1), .unset, .unset, .unset, .unset, .unset, .unset, .unset] [(.int (p5 &&& (3 : Int32)))])
      rcases own_n3 p5 with hq | hq | hq | hq
      · rw [hq]
        show own_Go p e below _ T17 (mkF m 55 #[.val (.int p1), .val (.int p2), .val (.int p3), .val (.int p4), .val (.int p5), .val (.int x0), .val (.int x2), .val (.int x1), .unset, .unset, .unset, .unset, .unset, .unset, .unset] [(.int (0 : Int32))])
        refine own_st (fun t k => XS.istore X17.here hx rfl (hb hby at_55) rfl (l' := #[.val (.int p1), .val (.int p2), .val (.int p3), .val (.int p4), .val (.int p5), .val (.int x0), .val (.int x2), .val (.int x1), .val (.int (0 : Int32)), .unset, .unset, .unset, .unset, .unset, .unset]) rfl k) ?_
        show own_Go p e below _ T17 (mkF m 57 #[.val (.int p1), .val (.int p2), .val (.int p3), .val (.int p4), .val (.int p5), .val (.int x0), .val (.int x2), .val (.int x1), .val (.int (0 : Int32)), .unset, .unset, .unset, .unset, .unset, .unset] [])
        refine own_st (fun t k => XS.iload X17.here hx rfl (hb hby at_57) rfl  k) ?_
        show own_Go p e below _ T17 (mkF m 59 #[.val (.int p1), .val (.int p2), .val (.int p3), .val (.int p4), .val (.int p5), .val (.int x0), .val (.int x2), .val (.int x1), .val (.int (0 : Int32)), .unset, .unset, .unset, .unset, .unset, .unset] [(.int p5)])
        refine own_st (fun t k => XS.iconst X17.here hx rfl (hb hby at_59) k) ?_
        show own_Go p e below _ T17 (mkF m 60 #[.val (.int p1), .val (.int p2), .val (.int p3), .val (.int p4), .val (.int p5), .val (.int x0), .val (.int x2), .val (.int x1), .val (.int (0 : Int32)), .unset, .unset, .unset, .unset, .unset, .unset] [(.int (2 : Int32)), (.int p5)])
        refine own_st (fun t k => XS.iushr X17.here hx rfl (hb hby at_60) rfl k) ?_
        show own_Go p e below _ T17 (mkF m 61 #[.val (.int p1), .val (.int p2), .val (.int p3), .val (.int p4), .val (.int p5), .val (.int x0), .val (.int x2), .val (.int x1), .val (.int (0 : Int32)), .unset, .unset, .unset, .unset, .unset, .unset] [(.int ((p5.toUInt32 >>> ((2 : Int32) &&& 31).toUInt32).toInt32))])
        refine own_st (fun t k => XS.iconst X17.here hx rfl (hb hby at_61) k) ?_
        show own_Go p e below _ T17 (mkF m 62 #[.val (.int p1), .val (.int p2), .val (.int p3), .val (.int p4), .val (.int p5), .val (.int x0), .val (.int x2), .val (.int x1), .val (.int (0 : Int32)), .unset, .unset, .unset, .unset, .unset, .unset] [(.int (3 : Int32)), (.int ((p5.toUInt32 >>> ((2 : Int32) &&& 31).toUInt32).toInt32))])
        refine own_st (fun t k => XS.iand X17.here hx rfl (hb hby at_62) rfl k) ?_
        show own_Go p e below _ T17 (mkF m 63 #[.val (.int p1), .val (.int p2), .val (.int p3), .val (.int p4), .val (.int p5), .val (.int x0), .val (.int x2), .val (.int x1), .val (.int (0 : Int32)), .unset, .unset, .unset, .unset, .unset, .unset] [(.int (((p5.toUInt32 >>> ((2 : Int32) &&& 31).toUInt32).toInt32) &&& (3 : Int32)))])
        generalize (((p5.toUInt32 >>> ((2 : Int32) &&& 31).toUInt32).toInt32) &&& (3 : Int32)) = md
        show own_Go p e below _ T17 (mkF m 63 #[.val (.int p1), .val (.int p2), .val (.int p3), .val (.int p4), .val (.int p5), .val (.int x0), .val (.int x2), .val (.int x1), .val (.int (0 : Int32)), .unset, .unset, .unset, .unset, .unset, .unset] [(.int md)])
        refine own_st (fun t k => XS.istore X17.here hx rfl (hb hby at_63) rfl (l' := #[.val (.int p1), .val (.int p2), .val (.int p3), .val (.int p4), .val (.int p5), .val (.int x0), .val (.int x2), .val (.int x1), .val (.int (0 : Int32)), .val (.int md), .unset, .unset, .unset, .unset, .unset]) rfl k) ?_
        show own_Go p e below _ T17 (mkF m 65 #[.val (.int p1), .val (.int p2), .val (.int p3), .val (.int p4), .val (.int p5), .val (.int x0), .val (.int x2), .val (.int x1), .val (.int (0 : Int32)), .val (.int md), .unset, .unset, .unset, .unset, .unset] [])
        refine own_st (fun t k => XS.iload X17.here hx rfl (hb hby at_65) rfl  k) ?_
        show own_Go p e below _ T17 (mkF m 67 #[.val (.int p1), .val (.int p2), .val (.int p3), .val (.int p4), .val (.int p5), .val (.int x0), .val (.int x2), .val (.int x1), .val (.int (0 : Int32)), .val (.int md), .unset, .unset, .unset, .unset, .unset] [(.int (0 : Int32))])
        obtain ⟨T67, h67, k67, X67, e67, E67, A67, st67⟩ := newP X17 hx hZ (hw _ (List.mem_of_getElem? (i := 7) rfl)) k4 (g := (mkF m 67 #[.val (.int p1), .val (.int p2), .val (.int p3), .val (.int p4), .val (.int p5), .val (.int x0), .val (.int x2), .val (.int x1), .val (.int (0 : Int32)), .val (.int md), .unset, .unset, .unset, .unset, .unset] [(.int (0 : Int32))])) rfl (hb hby at_67) rfl (by decide) (cap := 0) (by decide) (by decide) (by decide) (by decide)
        obtain ⟨b67, g67⟩ : ∃ z, z = h0.size := ⟨_, rfl⟩
        rw [← g67] at A67 st67
        have V67 : Arv Z h67 b67 k67 .int (0 : Int32) [] (.int (0 : Int32)) := (Arv.new A67 (by decide)).pad (pad_rep [] (.int (0 : Int32)) 0)
        refine own_st st67 ?_
        show own_Go p e below _ T67 (mkF m 69 #[.val (.int p1), .val (.int p2), .val (.int p3), .val (.int p4), .val (.int p5), .val (.int x0), .val (.int x2), .val (.int x1), .val (.int (0 : Int32)), .val (.int md), .unset, .unset, .unset, .unset, .unset] [(.ref b67)])
        have Z67 : n0 ≤ h67.size := Nat.le_trans Z0 E67.1
        have gr : n0 ≤ b67 := Nat.le_trans Z0 (Nat.le_of_eq g67.symm)
        refine own_st (fun t k => XS.astore X67.here hx rfl (hb hby at_69) rfl rfl (l' := #[.val (.int p1), .val (.int p2), .val (.int p3), .val (.int p4), .val (.int p5), .val (.int x0), .val (.int x2), .val (.int x1), .val (.int (0 : Int32)), .val (.int md), .val (.ref b67), .unset, .unset, .unset, .unset]) rfl k) ?_
        show own_Go p e below _ T67 (mkF m 71 #[.val (.int p1), .val (.int p2), .val (.int p3), .val (.int p4), .val (.int p5), .val (.int x0), .val (.int x2), .val (.int x1), .val (.int (0 : Int32)), .val (.int md), .val (.ref b67), .unset, .unset, .unset, .unset] [])
        refine own_st (fun t k => XS.iload X67.here hx rfl (hb hby at_71) rfl  k) ?_
        show own_Go p e below _ T67 (mkF m 73 #[.val (.int p1), .val (.int p2), .val (.int p3), .val (.int p4), .val (.int p5), .val (.int x0), .val (.int x2), .val (.int x1), .val (.int (0 : Int32)), .val (.int md), .val (.ref b67), .unset, .unset, .unset, .unset] [(.int (0 : Int32))])
        refine own_st (fun t k => XS.ifYes X67.here hx rfl (pc0 := 73) (pc' := 82) rfl (hb hby at_73) rfl ((if0 _ _).trans (flt (by decide : ¬ (0 : Int32) < (0 : Int32))).2.2.2) (by decide) (by decide) k) ?_
        show own_Go p e below _ T67 (mkF m 82 #[.val (.int p1), .val (.int p2), .val (.int p3), .val (.int p4), .val (.int p5), .val (.int x0), .val (.int x2), .val (.int x1), .val (.int (0 : Int32)), .val (.int md), .val (.ref b67), .unset, .unset, .unset, .unset] [])
        refine own_st (fun t k => XS.iload X67.here hx rfl (hb hby at_82) rfl  k) ?_
        show own_Go p e below _ T67 (mkF m 84 #[.val (.int p1), .val (.int p2), .val (.int p3), .val (.int p4), .val (.int p5), .val (.int x0), .val (.int x2), .val (.int x1), .val (.int (0 : Int32)), .val (.int md), .val (.ref b67), .unset, .unset, .unset, .unset] [(.int (0 : Int32))])
        refine own_st (fun t k => XS.iconst X67.here hx rfl (hb hby at_84) k) ?_
        show own_Go p e below _ T67 (mkF m 85 #[.val (.int p1), .val (.int p2), .val (.int p3), .val (.int p4), .val (.int p5), .val (.int x0), .val (.int x2), .val (.int x1), .val (.int (0 : Int32)), .val (.int md), .val (.ref b67), .unset, .unset, .unset, .unset] [(.int (1 : Int32)), (.int (0 : Int32))])
        refine own_st (fun t k => XS.icmpYes X67.here hx rfl (pc0 := 85) (pc' := 94) rfl (hb hby at_85) rfl (flt (by decide : ¬ (1 : Int32) < (0 : Int32))).2.2.2 (by decide) (by decide) k) ?_
        show own_Go p e below _ T67 (mkF m 94 #[.val (.int p1), .val (.int p2), .val (.int p3), .val (.int p4), .val (.int p5), .val (.int x0), .val (.int x2), .val (.int x1), .val (.int (0 : Int32)), .val (.int md), .val (.ref b67), .unset, .unset, .unset, .unset] [])
        refine own_st (fun t k => XS.iload X67.here hx rfl (hb hby at_94) rfl  k) ?_
        show own_Go p e below _ T67 (mkF m 96 #[.val (.int p1), .val (.int p2), .val (.int p3), .val (.int p4), .val (.int p5), .val (.int x0), .val (.int x2), .val (.int x1), .val (.int (0 : Int32)), .val (.int md), .val (.ref b67), .unset, .unset, .unset, .unset] [(.int (0 : Int32))])
        refine own_st (fun t k => XS.iconst X67.here hx rfl (hb hby at_96) k) ?_
        show own_Go p e below _ T67 (mkF m 97 #[.val (.int p1), .val (.int p2), .val (.int p3), .val (.int p4), .val (.int p5), .val (.int x0), .val (.int x2), .val (.int x1), .val (.int (0 : Int32)), .val (.int md), .val (.ref b67), .unset, .unset, .unset, .unset] [(.int (2 : Int32)), (.int (0 : Int32))])
        refine own_st (fun t k => XS.icmpYes X67.here hx rfl (pc0 := 97) (pc' := 106) rfl (hb hby at_97) rfl (flt (by decide : ¬ (2 : Int32) < (0 : Int32))).2.2.2 (by decide) (by decide) k) ?_
        show own_Go p e below _ T67 (mkF m 106 #[.val (.int p1), .val (.int p2), .val (.int p3), .val (.int p4), .val (.int p5), .val (.int x0), .val (.int x2), .val (.int x1), .val (.int (0 : Int32)), .val (.int md), .val (.ref b67), .unset, .unset, .unset, .unset] [])
        refine own_st (fun t k => XS.iload X67.here hx rfl (hb hby at_106) rfl  k) ?_
        show own_Go p e below _ T67 (mkF m 108 #[.val (.int p1), .val (.int p2), .val (.int p3), .val (.int p4), .val (.int p5), .val (.int x0), .val (.int x2), .val (.int x1), .val (.int (0 : Int32)), .val (.int md), .val (.ref b67), .unset, .unset, .unset, .unset] [(.int md)])
        have tail : ∀ u : Int32, own_Go p e below (own_P s (fun v h L => v = some (.int 1) ∧ Fr n0 L) room_1.cells room_1.slots) T67 (mkF m 147 #[.val (.int p1), .val (.int p2), .val (.int p3), .val (.int p4), .val (.int p5), .val (.int x0), .val (.int x2), .val (.int x1), .val (.int (0 : Int32)), .val (.int md), .val (.ref b67), .val (.int u), .unset, .unset, .unset] []) := by
          intro u
          show own_Go p e below _ T67 (mkF m 147 #[.val (.int p1), .val (.int p2), .val (.int p3), .val (.int p4), .val (.int p5), .val (.int x0), .val (.int x2), .val (.int x1), .val (.int (0 : Int32)), .val (.int md), .val (.ref b67), .val (.int u), .unset, .unset, .unset] [])
          obtain ⟨T147, h147, X147, e147, E147, A147, D147, -, st147⟩ := newO X67 hx hZ hown (hw _ (List.mem_of_getElem? (i := 8) rfl)) (hw _ (List.mem_of_getElem? (i := 9) rfl)) (hw _ (List.mem_of_getElem? (i := 10) rfl)) e67 (g := (mkF m 147 #[.val (.int p1), .val (.int p2), .val (.int p3), .val (.int p4), .val (.int p5), .val (.int x0), .val (.int x2), .val (.int x1), .val (.int (0 : Int32)), .val (.int md), .val (.ref b67), .val (.int u), .unset, .unset, .unset] [])) rfl (hb hby at_147) (by decide) (by decide)
          obtain ⟨b147, g147⟩ : ∃ z, z = h67.size := ⟨_, rfl⟩
          rw [← g147] at A147 D147 st147
          have F147_resources : Fld Z h147 b147 "com/example/rank3/rank3/text/Postings" "resources" "[I" .null := D147 (Or.inr (hw _ (List.mem_of_getElem? (i := 19) rfl))) (ty := (.array .int)) (by decide)
          have F147_titleCounts : Fld Z h147 b147 "com/example/rank3/rank3/text/Postings" "titleCounts" "[I" .null := D147 (Or.inr (hw _ (List.mem_of_getElem? (i := 21) rfl))) (ty := (.array .int)) (by decide)
          have F147_contentCounts : Fld Z h147 b147 "com/example/rank3/rank3/text/Postings" "contentCounts" "[I" .null := D147 (Or.inr (hw _ (List.mem_of_getElem? (i := 23) rfl))) (ty := (.array .int)) (by decide)
          have F147_inStructure : Fld Z h147 b147 "com/example/rank3/rank3/text/Postings" "inStructure" "[Z" .null := D147 (Or.inr (hw _ (List.mem_of_getElem? (i := 25) rfl))) (ty := (.array .boolean)) (by decide)
          have F147_collectionCount : Fld Z h147 b147 "com/example/rank3/rank3/text/Postings" "collectionCount" "J" (.long (0 : Int64)) := D147 (Or.inr (hw _ (List.mem_of_getElem? (i := 27) rfl))) (ty := .long) (by decide)
          refine own_st st147 ?_
          show own_Go p e below _ T147 (mkF m 150 #[.val (.int p1), .val (.int p2), .val (.int p3), .val (.int p4), .val (.int p5), .val (.int x0), .val (.int x2), .val (.int x1), .val (.int (0 : Int32)), .val (.int md), .val (.ref b67), .val (.int u), .unset, .unset, .unset] [(.ref b147)])
          have Z147 : n0 ≤ h147.size := Nat.le_trans Z67 E147.1
          have go : n0 ≤ b147 := Nat.le_trans Z67 (Nat.le_of_eq g147.symm)
          have nr : b67 ≠ b147 := Nat.ne_of_lt (Nat.lt_of_lt_of_le V67.lt (Nat.le_of_eq g147.symm))
          refine own_st (fun t k => XS.dup X147.here hx rfl (hb hby at_150) rfl rfl k) ?_
          show own_Go p e below _ T147 (mkF m 151 #[.val (.int p1), .val (.int p2), .val (.int p3), .val (.int p4), .val (.int p5), .val (.int x0), .val (.int x2), .val (.int x1), .val (.int (0 : Int32)), .val (.int md), .val (.ref b67), .val (.int u), .unset, .unset, .unset] [(.ref b147), (.ref b147)])
          refine own_st (fun t k => XS.aload X147.here hx rfl (hb hby at_151) rfl rfl k) ?_
          show own_Go p e below _ T147 (mkF m 153 #[.val (.int p1), .val (.int p2), .val (.int p3), .val (.int p4), .val (.int p5), .val (.int x0), .val (.int x2), .val (.int x1), .val (.int (0 : Int32)), .val (.int md), .val (.ref b67), .val (.int u), .unset, .unset, .unset] [(.ref b67), (.ref b147), (.ref b147)])
          refine own_st (fun t k => XS.iload X147.here hx rfl (hb hby at_153) rfl  k) ?_
          show own_Go p e below _ T147 (mkF m 155 #[.val (.int p1), .val (.int p2), .val (.int p3), .val (.int p4), .val (.int p5), .val (.int x0), .val (.int x2), .val (.int x1), .val (.int (0 : Int32)), .val (.int md), .val (.ref b67), .val (.int u), .unset, .unset, .unset] [(.int (0 : Int32)), (.ref b67), (.ref b147), (.ref b147)])
          obtain ⟨T155, h155, k155, X155, e155, E155, A155, st155⟩ := newP X147 hx hZ (hw _ (List.mem_of_getElem? (i := 7) rfl)) e147 (g := (mkF m 155 #[.val (.int p1), .val (.int p2), .val (.int p3), .val (.int p4), .val (.int p5), .val (.int x0), .val (.int x2), .val (.int x1), .val (.int (0 : Int32)), .val (.int md), .val (.ref b67), .val (.int u), .unset, .unset, .unset] [(.int (0 : Int32)), (.ref b67), (.ref b147), (.ref b147)])) rfl (hb hby at_155) rfl (by decide) (cap := 0) (by decide) (by decide) (by decide) (by decide)
          obtain ⟨b155, g155⟩ : ∃ z, z = h147.size := ⟨_, rfl⟩
          rw [← g155] at A155 st155
          have V155 : Arv Z h155 b155 k155 .int (0 : Int32) [] (.int (0 : Int32)) := (Arv.new A155 (by decide)).pad (pad_rep [] (.int (0 : Int32)) 0)
          refine own_st st155 ?_
          show own_Go p e below _ T155 (mkF m 157 #[.val (.int p1), .val (.int p2), .val (.int p3), .val (.int p4), .val (.int p5), .val (.int x0), .val (.int x2), .val (.int x1), .val (.int (0 : Int32)), .val (.int md), .val (.ref b67), .val (.int u), .unset, .unset, .unset] [(.ref b155), (.ref b67), (.ref b147), (.ref b147)])
          have Z155 : n0 ≤ h155.size := Nat.le_trans Z147 E155.1
          have ne155 : b155 ≠ b147 := Nat.ne_of_gt (Nat.lt_of_lt_of_le A147.lt (Nat.le_of_eq g155.symm))
          refine own_st (fun t k => XS.iload X155.here hx rfl (hb hby at_157) rfl  k) ?_
          show own_Go p e below _ T155 (mkF m 159 #[.val (.int p1), .val (.int p2), .val (.int p3), .val (.int p4), .val (.int p5), .val (.int x0), .val (.int x2), .val (.int x1), .val (.int (0 : Int32)), .val (.int md), .val (.ref b67), .val (.int u), .unset, .unset, .unset] [(.int (0 : Int32)), (.ref b155), (.ref b67), (.ref b147), (.ref b147)])
          obtain ⟨T159, h159, k159, X159, e159, E159, A159, st159⟩ := newP X155 hx hZ (hw _ (List.mem_of_getElem? (i := 7) rfl)) e155 (g := (mkF m 159 #[.val (.int p1), .val (.int p2), .val (.int p3), .val (.int p4), .val (.int p5), .val (.int x0), .val (.int x2), .val (.int x1), .val (.int (0 : Int32)), .val (.int md), .val (.ref b67), .val (.int u), .unset, .unset, .unset] [(.int (0 : Int32)), (.ref b155), (.ref b67), (.ref b147), (.ref b147)])) rfl (hb hby at_159) rfl (by decide) (cap := 0) (by decide) (by decide) (by decide) (by decide)
          obtain ⟨b159, g159⟩ : ∃ z, z = h155.size := ⟨_, rfl⟩
          rw [← g159] at A159 st159
          have V159 : Arv Z h159 b159 k159 .int (0 : Int32) [] (.int (0 : Int32)) := (Arv.new A159 (by decide)).pad (pad_rep [] (.int (0 : Int32)) 0)
          refine own_st st159 ?_
          show own_Go p e below _ T159 (mkF m 161 #[.val (.int p1), .val (.int p2), .val (.int p3), .val (.int p4), .val (.int p5), .val (.int x0), .val (.int x2), .val (.int x1), .val (.int (0 : Int32)), .val (.int md), .val (.ref b67), .val (.int u), .unset, .unset, .unset] [(.ref b159), (.ref b155), (.ref b67), (.ref b147), (.ref b147)])
          have Z159 : n0 ≤ h159.size := Nat.le_trans Z155 E159.1
          have ne159 : b159 ≠ b147 := Nat.ne_of_gt (Nat.lt_of_lt_of_le (A147.ext E155).lt (Nat.le_of_eq g159.symm))
          refine own_st (fun t k => XS.iload X159.here hx rfl (hb hby at_161) rfl  k) ?_
          show own_Go p e below _ T159 (mkF m 163 #[.val (.int p1), .val (.int p2), .val (.int p3), .val (.int p4), .val (.int p5), .val (.int x0), .val (.int x2), .val (.int x1), .val (.int (0 : Int32)), .val (.int md), .val (.ref b67), .val (.int u), .unset, .unset, .unset] [(.int (0 : Int32)), (.ref b159), (.ref b155), (.ref b67), (.ref b147), (.ref b147)])
          obtain ⟨T163, h163, k163, X163, e163, E163, A163, st163⟩ := newP X159 hx hZ (hw _ (List.mem_of_getElem? (i := 11) rfl)) e159 (g := (mkF m 163 #[.val (.int p1), .val (.int p2), .val (.int p3), .val (.int p4), .val (.int p5), .val (.int x0), .val (.int x2), .val (.int x1), .val (.int (0 : Int32)), .val (.int md), .val (.ref b67), .val (.int u), .unset, .unset, .unset] [(.int (0 : Int32)), (.ref b159), (.ref b155), (.ref b67), (.ref b147), (.ref b147)])) rfl (hb hby at_163) rfl (by decide) (cap := 0) (by decide) (by decide) (by decide) (by decide)
          obtain ⟨b163, g163⟩ : ∃ z, z = h159.size := ⟨_, rfl⟩
          rw [← g163] at A163 st163
          have V163 : Arv Z h163 b163 k163 .boolean (0 : Int32) [] (.int (0 : Int32)) := (Arv.new A163 (by decide)).pad (pad_rep [] (.int (0 : Int32)) 0)
          refine own_st st163 ?_
          show own_Go p e below _ T163 (mkF m 165 #[.val (.int p1), .val (.int p2), .val (.int p3), .val (.int p4), .val (.int p5), .val (.int x0), .val (.int x2), .val (.int x1), .val (.int (0 : Int32)), .val (.int md), .val (.ref b67), .val (.int u), .unset, .unset, .unset] [(.ref b163), (.ref b159), (.ref b155), (.ref b67), (.ref b147), (.ref b147)])
          have Z163 : n0 ≤ h163.size := Nat.le_trans Z159 E163.1
          have ne163 : b163 ≠ b147 := Nat.ne_of_gt (Nat.lt_of_lt_of_le ((A147.ext E155).ext E159).lt (Nat.le_of_eq g163.symm))
          refine own_callI X163 hx hZ (y := (⟨"com/example/rank3/rank3/text/Postings", "<init>", "([I[I[I[Z)V"⟩ : MethodName)) (W := 1) (kc := 0) (ks := 0) rfl hown (hw _ (List.mem_of_getElem? (i := 12) rfl)) (hw _ (List.mem_of_getElem? (i := 13) rfl)) (hw _ (List.mem_of_getElem? (i := 14) rfl)) (own_back (W := 1) (rm_in0 l Z a0 hw [] b147 b67 b155 b159 b163 k159 h163 n0 Z163 (((A147.ext E155).ext E159).ext E163) (((F147_resources.ext E155).ext E159).ext E163) (((F147_titleCounts.ext E155).ext E159).ext E163) (((F147_contentCounts.ext E155).ext E159).ext E163) (((F147_inStructure.ext E155).ext E159).ext E163) (((F147_collectionCount.ext E155).ext E159).ext E163) go (V159.ext E163) ne159) hZ (hw _ (List.mem_of_getElem? (i := 14) rfl)) (hw _ (List.mem_of_getElem? (i := 10) rfl)) (by decide) (by decide)) (by decide) (g := (mkF m 165 #[.val (.int p1), .val (.int p2), .val (.int p3), .val (.int p4), .val (.int p5), .val (.int x0), .val (.int x2), .val (.int x1), .val (.int (0 : Int32)), .val (.int md), .val (.ref b67), .val (.int u), .unset, .unset, .unset] [(.ref b163), (.ref b159), (.ref b155), (.ref b67), (.ref b147), (.ref b147)])) rfl (by rw [hml]; rfl) (a := b147) (argsL := [(.ref b67), (.ref b155), (.ref b159), (.ref b163)]) (rest := [(.ref b147)]) (lenOf pd_3 rfl) rfl (by show 2 * 0 + _ ≤ _; exact Nat.le_of_eq rfl) (hb hby at_165) rfl e163 (by decide) (by decide) (fun v165 T165 L165 X165 hQ165 => ?_)
          obtain ⟨rfl, M165, K165, E165, F165⟩ := hQ165
          have N165 := Fr.app Q4 M165
          have Z165 : n0 ≤ T165.heap.size := Nat.le_trans Z163 K165.1
          have V165 := ((((V67.ext E147).ext E155).ext E159).ext E163).keep K165 (ninS nr nin0)
          show own_Go p e below _ T165 (mkF m 168 #[.val (.int p1), .val (.int p2), .val (.int p3), .val (.int p4), .val (.int p5), .val (.int x0), .val (.int x2), .val (.int x1), .val (.int (0 : Int32)), .val (.int md), .val (.ref b67), .val (.int u), .unset, .unset, .unset] [(.ref b147)])
          refine own_st (fun t k => XS.astore X165.here hx rfl (hb hby at_168) rfl rfl (l' := #[.val (.int p1), .val (.int p2), .val (.int p3), .val (.int p4), .val (.int p5), .val (.int x0), .val (.int x2), .val (.int x1), .val (.int (0 : Int32)), .val (.int md), .val (.ref b67), .val (.int u), .val (.ref b147), .unset, .unset]) rfl k) ?_
          show own_Go p e below _ T165 (mkF m 170 #[.val (.int p1), .val (.int p2), .val (.int p3), .val (.int p4), .val (.int p5), .val (.int x0), .val (.int x2), .val (.int x1), .val (.int (0 : Int32)), .val (.int md), .val (.ref b67), .val (.int u), .val (.ref b147), .unset, .unset] [])
          refine own_st (fun t k => XS.aload X165.here hx rfl (hb hby at_170) rfl rfl k) ?_
          show own_Go p e below _ T165 (mkF m 172 #[.val (.int p1), .val (.int p2), .val (.int p3), .val (.int p4), .val (.int p5), .val (.int x0), .val (.int x2), .val (.int x1), .val (.int (0 : Int32)), .val (.int md), .val (.ref b67), .val (.int u), .val (.ref b147), .unset, .unset] [(.ref b147)])
          refine own_st (fun t k => XS.iload X165.here hx rfl (hb hby at_172) rfl  k) ?_
          show own_Go p e below _ T165 (mkF m 174 #[.val (.int p1), .val (.int p2), .val (.int p3), .val (.int p4), .val (.int p5), .val (.int x0), .val (.int x2), .val (.int x1), .val (.int (0 : Int32)), .val (.int md), .val (.ref b67), .val (.int u), .val (.ref b147), .unset, .unset] [(.int u), (.ref b147)])
          refine own_callV X165 hx hZ (y := (⟨"com/example/rank3/rank3/text/Postings", "indexOf", "(I)I"⟩ : MethodName)) (W := 0) (kc := 0) (ks := 0) hown (hw _ (List.mem_of_getElem? (i := 28) rfl)) (hw _ (List.mem_of_getElem? (i := 29) rfl)) (hw _ (List.mem_of_getElem? (i := 31) rfl)) (hw _ (List.mem_of_getElem? (i := 30) rfl)) (own_back (W := 0) (rm_ix0 l Z a0 hw [] b147 b67 k67  u T165.heap n0 Z165 F165 V165 ) hZ (hw _ (List.mem_of_getElem? (i := 32) rfl)) (hw _ (List.mem_of_getElem? (i := 10) rfl)) (by decide) (by decide)) (by decide) (b := b147) E165 (g := (mkF m 174 #[.val (.int p1), .val (.int p2), .val (.int p3), .val (.int p4), .val (.int p5), .val (.int x0), .val (.int x2), .val (.int x1), .val (.int (0 : Int32)), .val (.int md), .val (.ref b67), .val (.int u), .val (.ref b147), .unset, .unset] [(.int u), (.ref b147)])) rfl (by rw [hml]; rfl) (argsL := [(.int u)]) (rest := []) (lenOf pd_4 rfl) rfl (by show 2 * 0 + _ ≤ _; exact Nat.le_of_eq rfl) (hb hby at_174) rfl rfl (by decide) (by decide) (fun v174 T174 L174 X174 hQ174 => ?_)
          obtain ⟨r, rfl, hr, M174, e174⟩ := hQ174
          have N174 := Fr.app N165 M174
          show own_Go p e below _ T174 (mkF m 177 #[.val (.int p1), .val (.int p2), .val (.int p3), .val (.int p4), .val (.int p5), .val (.int x0), .val (.int x2), .val (.int x1), .val (.int (0 : Int32)), .val (.int md), .val (.ref b67), .val (.int u), .val (.ref b147), .unset, .unset] [(.int r)])
          refine own_st (fun t k => XS.istore X174.here hx rfl (hb hby at_177) rfl (l' := #[.val (.int p1), .val (.int p2), .val (.int p3), .val (.int p4), .val (.int p5), .val (.int x0), .val (.int x2), .val (.int x1), .val (.int (0 : Int32)), .val (.int md), .val (.ref b67), .val (.int u), .val (.ref b147), .val (.int r), .unset]) rfl k) ?_
          show own_Go p e below _ T174 (mkF m 179 #[.val (.int p1), .val (.int p2), .val (.int p3), .val (.int p4), .val (.int p5), .val (.int x0), .val (.int x2), .val (.int x1), .val (.int (0 : Int32)), .val (.int md), .val (.ref b67), .val (.int u), .val (.ref b147), .val (.int r), .unset] [])
          refine own_st (fun t k => XS.iconst X174.here hx rfl (hb hby at_179) k) ?_
          show own_Go p e below _ T174 (mkF m 180 #[.val (.int p1), .val (.int p2), .val (.int p3), .val (.int p4), .val (.int p5), .val (.int x0), .val (.int x2), .val (.int x1), .val (.int (0 : Int32)), .val (.int md), .val (.ref b67), .val (.int u), .val (.ref b147), .val (.int r), .unset] [(.int (-1 : Int32))])
          refine own_st (fun t k => XS.istore X174.here hx rfl (hb hby at_180) rfl (l' := #[.val (.int p1), .val (.int p2), .val (.int p3), .val (.int p4), .val (.int p5), .val (.int x0), .val (.int x2), .val (.int x1), .val (.int (0 : Int32)), .val (.int md), .val (.ref b67), .val (.int u), .val (.ref b147), .val (.int r), .val (.int (-1 : Int32))]) rfl k) ?_
          show own_Go p e below _ T174 (mkF m 182 #[.val (.int p1), .val (.int p2), .val (.int p3), .val (.int p4), .val (.int p5), .val (.int x0), .val (.int x2), .val (.int x1), .val (.int (0 : Int32)), .val (.int md), .val (.ref b67), .val (.int u), .val (.ref b147), .val (.int r), .val (.int (-1 : Int32))] [])
          refine own_st (fun t k => XS.iload X174.here hx rfl (hb hby at_182) rfl  k) ?_
          show own_Go p e below _ T174 (mkF m 184 #[.val (.int p1), .val (.int p2), .val (.int p3), .val (.int p4), .val (.int p5), .val (.int x0), .val (.int x2), .val (.int x1), .val (.int (0 : Int32)), .val (.int md), .val (.ref b67), .val (.int u), .val (.ref b147), .val (.int r), .val (.int (-1 : Int32))] [(.int (0 : Int32))])
          subst hr
          show own_Go p e below _ T174 (mkF m 184 #[.val (.int p1), .val (.int p2), .val (.int p3), .val (.int p4), .val (.int p5), .val (.int x0), .val (.int x2), .val (.int x1), .val (.int (0 : Int32)), .val (.int md), .val (.ref b67), .val (.int u), .val (.ref b147), .val (.int (-1 : Int32)), .val (.int (-1 : Int32))] [(.int (0 : Int32))])
          refine own_st (fun t k => XS.ifYes X174.here hx rfl (pc0 := 184) (pc' := 197) rfl (hb hby at_184) rfl ((if0 _ _).trans (flt (by decide : ¬ (0 : Int32) < (0 : Int32))).2.2.2) (by decide) (by decide) k) ?_
          show own_Go p e below _ T174 (mkF m 197 #[.val (.int p1), .val (.int p2), .val (.int p3), .val (.int p4), .val (.int p5), .val (.int x0), .val (.int x2), .val (.int x1), .val (.int (0 : Int32)), .val (.int md), .val (.ref b67), .val (.int u), .val (.ref b147), .val (.int (-1 : Int32)), .val (.int (-1 : Int32))] [])
          refine own_st (fun t k => XS.iload X174.here hx rfl (hb hby at_197) rfl  k) ?_
          show own_Go p e below _ T174 (mkF m 199 #[.val (.int p1), .val (.int p2), .val (.int p3), .val (.int p4), .val (.int p5), .val (.int x0), .val (.int x2), .val (.int x1), .val (.int (0 : Int32)), .val (.int md), .val (.ref b67), .val (.int u), .val (.ref b147), .val (.int (-1 : Int32)), .val (.int (-1 : Int32))] [(.int (0 : Int32))])
          refine own_st (fun t k => XS.iconst X174.here hx rfl (hb hby at_199) k) ?_
          show own_Go p e below _ T174 (mkF m 200 #[.val (.int p1), .val (.int p2), .val (.int p3), .val (.int p4), .val (.int p5), .val (.int x0), .val (.int x2), .val (.int x1), .val (.int (0 : Int32)), .val (.int md), .val (.ref b67), .val (.int u), .val (.ref b147), .val (.int (-1 : Int32)), .val (.int (-1 : Int32))] [(.int (1 : Int32)), (.int (0 : Int32))])
          refine own_st (fun t k => XS.icmpYes X174.here hx rfl (pc0 := 200) (pc' := 213) rfl (hb hby at_200) rfl (flt (by decide : ¬ (1 : Int32) < (0 : Int32))).2.2.2 (by decide) (by decide) k) ?_
          show own_Go p e below _ T174 (mkF m 213 #[.val (.int p1), .val (.int p2), .val (.int p3), .val (.int p4), .val (.int p5), .val (.int x0), .val (.int x2), .val (.int x1), .val (.int (0 : Int32)), .val (.int md), .val (.ref b67), .val (.int u), .val (.ref b147), .val (.int (-1 : Int32)), .val (.int (-1 : Int32))] [])
          refine own_st (fun t k => XS.iload X174.here hx rfl (hb hby at_213) rfl  k) ?_
          show own_Go p e below _ T174 (mkF m 215 #[.val (.int p1), .val (.int p2), .val (.int p3), .val (.int p4), .val (.int p5), .val (.int x0), .val (.int x2), .val (.int x1), .val (.int (0 : Int32)), .val (.int md), .val (.ref b67), .val (.int u), .val (.ref b147), .val (.int (-1 : Int32)), .val (.int (-1 : Int32))] [(.int (0 : Int32))])
          refine own_st (fun t k => XS.iconst X174.here hx rfl (hb hby at_215) k) ?_
          show own_Go p e below _ T174 (mkF m 216 #[.val (.int p1), .val (.int p2), .val (.int p3), .val (.int p4), .val (.int p5), .val (.int x0), .val (.int x2), .val (.int x1), .val (.int (0 : Int32)), .val (.int md), .val (.ref b67), .val (.int u), .val (.ref b147), .val (.int (-1 : Int32)), .val (.int (-1 : Int32))] [(.int (2 : Int32)), (.int (0 : Int32))])
          refine own_st (fun t k => XS.icmpYes X174.here hx rfl (pc0 := 216) (pc' := 229) rfl (hb hby at_216) rfl (flt (by decide : ¬ (2 : Int32) < (0 : Int32))).2.2.2 (by decide) (by decide) k) ?_
          show own_Go p e below _ T174 (mkF m 229 #[.val (.int p1), .val (.int p2), .val (.int p3), .val (.int p4), .val (.int p5), .val (.int x0), .val (.int x2), .val (.int x1), .val (.int (0 : Int32)), .val (.int md), .val (.ref b67), .val (.int u), .val (.ref b147), .val (.int (-1 : Int32)), .val (.int (-1 : Int32))] [])
          refine own_st (fun t k => XS.iload X174.here hx rfl (hb hby at_229) rfl  k) ?_
          show own_Go p e below _ T174 (mkF m 231 #[.val (.int p1), .val (.int p2), .val (.int p3), .val (.int p4), .val (.int p5), .val (.int x0), .val (.int x2), .val (.int x1), .val (.int (0 : Int32)), .val (.int md), .val (.ref b67), .val (.int u), .val (.ref b147), .val (.int (-1 : Int32)), .val (.int (-1 : Int32))] [(.int (-1 : Int32))])
          refine own_st (fun t k => XS.iload X174.here hx rfl (hb hby at_231) rfl  k) ?_
          show own_Go p e below _ T174 (mkF m 233 #[.val (.int p1), .val (.int p2), .val (.int p3), .val (.int p4), .val (.int p5), .val (.int x0), .val (.int x2), .val (.int x1), .val (.int (0 : Int32)), .val (.int md), .val (.ref b67), .val (.int u), .val (.ref b147), .val (.int (-1 : Int32)), .val (.int (-1 : Int32))] [(.int (-1 : Int32)), (.int (-1 : Int32))])
          refine own_st (fun t k => XS.icmpNo X174.here hx rfl (hb hby at_233) rfl (teq (rfl : (-1 : Int32) = (-1 : Int32))).2 k) ?_
          show own_Go p e below _ T174 (mkF m 236 #[.val (.int p1), .val (.int p2), .val (.int p3), .val (.int p4), .val (.int p5), .val (.int x0), .val (.int x2), .val (.int x1), .val (.int (0 : Int32)), .val (.int md), .val (.ref b67), .val (.int u), .val (.ref b147), .val (.int (-1 : Int32)), .val (.int (-1 : Int32))] [])
          refine own_st (fun t k => XS.iconst X174.here hx rfl (hb hby at_236) k) ?_
          show own_Go p e below _ T174 (mkF m 237 #[.val (.int p1), .val (.int p2), .val (.int p3), .val (.int p4), .val (.int p5), .val (.int x0), .val (.int x2), .val (.int x1), .val (.int (0 : Int32)), .val (.int md), .val (.ref b67), .val (.int u), .val (.ref b147), .val (.int (-1 : Int32)), .val (.int (-1 : Int32))] [(.int (1 : Int32))])
          refine own_st (fun t k => XS.goto X174.here hx rfl (pc0 := 237) (pc' := 241) rfl (hb hby at_237) (by decide) (by decide) k) ?_
          show own_Go p e below _ T174 (mkF m 241 #[.val (.int p1), .val (.int p2), .val (.int p3), .val (.int p4), .val (.int p5), .val (.int x0), .val (.int x2), .val (.int x1), .val (.int (0 : Int32)), .val (.int md), .val (.ref b67), .val (.int u), .val (.ref b147), .val (.int (-1 : Int32)), .val (.int (-1 : Int32))] [(.int (1 : Int32))])
          refine own_retN (t := .boolean) X174 hx hlk hret (by simp) (hb hby at_241) ?_ (by decide) (by decide)
          exact ⟨rfl, N174⟩
        by_cases hm0 : md = (0 : Int32)
        · refine own_st (fun t k => XS.ifNo X67.here hx rfl (hb hby at_108) rfl ((if0 _ _).trans (teq hm0).2) k) ?_
          show own_Go p e below _ T67 (mkF m 111 #[.val (.int p1), .val (.int p2), .val (.int p3), .val (.int p4), .val (.int p5), .val (.int x0), .val (.int x2), .val (.int x1), .val (.int (0 : Int32)), .val (.int md), .val (.ref b67), .unset, .unset, .unset, .unset] [])
          refine own_st (fun t k => XS.iload X67.here hx rfl (hb hby at_111) rfl  k) ?_
          show own_Go p e below _ T67 (mkF m 113 #[.val (.int p1), .val (.int p2), .val (.int p3), .val (.int p4), .val (.int p5), .val (.int x0), .val (.int x2), .val (.int x1), .val (.int (0 : Int32)), .val (.int md), .val (.ref b67), .unset, .unset, .unset, .unset] [(.int x0)])
          refine own_st (fun t k => XS.istore X67.here hx rfl (hb hby at_113) rfl (l' := #[.val (.int p1), .val (.int p2), .val (.int p3), .val (.int p4), .val (.int p5), .val (.int x0), .val (.int x2), .val (.int x1), .val (.int (0 : Int32)), .val (.int md), .val (.ref b67), .val (.int x0), .unset, .unset, .unset]) rfl k) ?_
          show own_Go p e below _ T67 (mkF m 115 #[.val (.int p1), .val (.int p2), .val (.int p3), .val (.int p4), .val (.int p5), .val (.int x0), .val (.int x2), .val (.int x1), .val (.int (0 : Int32)), .val (.int md), .val (.ref b67), .val (.int x0), .unset, .unset, .unset] [])
          refine own_st (fun t k => XS.goto X67.here hx rfl (pc0 := 115) (pc' := 147) rfl (hb hby at_115) (by decide) (by decide) k) ?_
          show own_Go p e below _ T67 (mkF m 147 #[.val (.int p1), .val (.int p2), .val (.int p3), .val (.int p4), .val (.int p5), .val (.int x0), .val (.int x2), .val (.int x1), .val (.int (0 : Int32)), .val (.int md), .val (.ref b67), .val (.int x0), .unset, .unset, .unset] [])
          exact tail _
        · refine own_st (fun t k => XS.ifYes X67.here hx rfl (pc0 := 108) (pc' := 118) rfl (hb hby at_108) rfl ((if0 _ _).trans (feq hm0).2) (by decide) (by decide) k) ?_
          show own_Go p e below _ T67 (mkF m 118 #[.val (.int p1), .val (.int p2), .val (.int p3), .val (.int p4), .val (.int p5), .val (.int x0), .val (.int x2), .val (.int x1), .val (.int (0 : Int32)), .val (.int md), .val (.ref b67), .unset, .unset, .unset, .unset] [])
          refine own_st (fun t k => XS.iload X67.here hx rfl (hb hby at_118) rfl  k) ?_
          show own_Go p e below _ T67 (mkF m 120 #[.val (.int p1), .val (.int p2), .val (.int p3), .val (.int p4), .val (.int p5), .val (.int x0), .val (.int x2), .val (.int x1), .val (.int (0 : Int32)), .val (.int md), .val (.ref b67), .unset, .unset, .unset, .unset] [(.int md)])
          refine own_st (fun t k => XS.iconst X67.here hx rfl (hb hby at_120) k) ?_
          show own_Go p e below _ T67 (mkF m 121 #[.val (.int p1), .val (.int p2), .val (.int p3), .val (.int p4), .val (.int p5), .val (.int x0), .val (.int x2), .val (.int x1), .val (.int (0 : Int32)), .val (.int md), .val (.ref b67), .unset, .unset, .unset, .unset] [(.int (1 : Int32)), (.int md)])
          by_cases hm1 : md = (1 : Int32)
          · refine own_st (fun t k => XS.icmpNo X67.here hx rfl (hb hby at_121) rfl (teq hm1).2 k) ?_
            show own_Go p e below _ T67 (mkF m 124 #[.val (.int p1), .val (.int p2), .val (.int p3), .val (.int p4), .val (.int p5), .val (.int x0), .val (.int x2), .val (.int x1), .val (.int (0 : Int32)), .val (.int md), .val (.ref b67), .unset, .unset, .unset, .unset] [])
            refine own_st (fun t k => XS.iload X67.here hx rfl (hb hby at_124) rfl  k) ?_
            show own_Go p e below _ T67 (mkF m 126 #[.val (.int p1), .val (.int p2), .val (.int p3), .val (.int p4), .val (.int p5), .val (.int x0), .val (.int x2), .val (.int x1), .val (.int (0 : Int32)), .val (.int md), .val (.ref b67), .unset, .unset, .unset, .unset] [(.int x1)])
            refine own_st (fun t k => XS.istore X67.here hx rfl (hb hby at_126) rfl (l' := #[.val (.int p1), .val (.int p2), .val (.int p3), .val (.int p4), .val (.int p5), .val (.int x0), .val (.int x2), .val (.int x1), .val (.int (0 : Int32)), .val (.int md), .val (.ref b67), .val (.int x1), .unset, .unset, .unset]) rfl k) ?_
            show own_Go p e below _ T67 (mkF m 128 #[.val (.int p1), .val (.int p2), .val (.int p3), .val (.int p4), .val (.int p5), .val (.int x0), .val (.int x2), .val (.int x1), .val (.int (0 : Int32)), .val (.int md), .val (.ref b67), .val (.int x1), .unset, .unset, .unset] [])
            refine own_st (fun t k => XS.goto X67.here hx rfl (pc0 := 128) (pc' := 147) rfl (hb hby at_128) (by decide) (by decide) k) ?_
            show own_Go p e below _ T67 (mkF m 147 #[.val (.int p1), .val (.int p2), .val (.int p3), .val (.int p4), .val (.int p5), .val (.int x0), .val (.int x2), .val (.int x1), .val (.int (0 : Int32)), .val (.int md), .val (.ref b67), .val (.int x1), .unset, .unset, .unset] [])
            exact tail _
          · refine own_st (fun t k => XS.icmpYes X67.here hx rfl (pc0 := 121) (pc' := 131) rfl (hb hby at_121) rfl (feq hm1).2 (by decide) (by decide) k) ?_
            show own_Go p e below _ T67 (mkF m 131 #[.val (.int p1), .val (.int p2), .val (.int p3), .val (.int p4), .val (.int p5), .val (.int x0), .val (.int x2), .val (.int x1), .val (.int (0 : Int32)), .val (.int md), .val (.ref b67), .unset, .unset, .unset, .unset] [])
            refine own_st (fun t k => XS.iload X67.here hx rfl (hb hby at_131) rfl  k) ?_
            show own_Go p e below _ T67 (mkF m 133 #[.val (.int p1), .val (.int p2), .val (.int p3), .val (.int p4), .val (.int p5), .val (.int x0), .val (.int x2), .val (.int x1), .val (.int (0 : Int32)), .val (.int md), .val (.ref b67), .unset, .unset, .unset, .unset] [(.int md)])
            refine own_st (fun t k => XS.iconst X67.here hx rfl (hb hby at_133) k) ?_
            show own_Go p e below _ T67 (mkF m 134 #[.val (.int p1), .val (.int p2), .val (.int p3), .val (.int p4), .val (.int p5), .val (.int x0), .val (.int x2), .val (.int x1), .val (.int (0 : Int32)), .val (.int md), .val (.ref b67), .unset, .unset, .unset, .unset] [(.int (2 : Int32)), (.int md)])
            by_cases hm2 : md = (2 : Int32)
            · refine own_st (fun t k => XS.icmpNo X67.here hx rfl (hb hby at_134) rfl (teq hm2).2 k) ?_
              show own_Go p e below _ T67 (mkF m 137 #[.val (.int p1), .val (.int p2), .val (.int p3), .val (.int p4), .val (.int p5), .val (.int x0), .val (.int x2), .val (.int x1), .val (.int (0 : Int32)), .val (.int md), .val (.ref b67), .unset, .unset, .unset, .unset] [])
              refine own_st (fun t k => XS.iload X67.here hx rfl (hb hby at_137) rfl  k) ?_
              show own_Go p e below _ T67 (mkF m 139 #[.val (.int p1), .val (.int p2), .val (.int p3), .val (.int p4), .val (.int p5), .val (.int x0), .val (.int x2), .val (.int x1), .val (.int (0 : Int32)), .val (.int md), .val (.ref b67), .unset, .unset, .unset, .unset] [(.int x2)])
              refine own_st (fun t k => XS.istore X67.here hx rfl (hb hby at_139) rfl (l' := #[.val (.int p1), .val (.int p2), .val (.int p3), .val (.int p4), .val (.int p5), .val (.int x0), .val (.int x2), .val (.int x1), .val (.int (0 : Int32)), .val (.int md), .val (.ref b67), .val (.int x2), .unset, .unset, .unset]) rfl k) ?_
              show own_Go p e below _ T67 (mkF m 141 #[.val (.int p1), .val (.int p2), .val (.int p3), .val (.int p4), .val (.int p5), .val (.int x0), .val (.int x2), .val (.int x1), .val (.int (0 : Int32)), .val (.int md), .val (.ref b67), .val (.int x2), .unset, .unset, .unset] [])
              refine own_st (fun t k => XS.goto X67.here hx rfl (pc0 := 141) (pc' := 147) rfl (hb hby at_141) (by decide) (by decide) k) ?_
              show own_Go p e below _ T67 (mkF m 147 #[.val (.int p1), .val (.int p2), .val (.int p3), .val (.int p4), .val (.int p5), .val (.int x0), .val (.int x2), .val (.int x1), .val (.int (0 : Int32)), .val (.int md), .val (.ref b67), .val (.int x2), .unset, .unset, .unset] [])
              exact tail _
            · refine own_st (fun t k => XS.icmpYes X67.here hx rfl (pc0 := 134) (pc' := 144) rfl (hb hby at_134) rfl (feq hm2).2 (by decide) (by decide) k) ?_
              show own_Go p e below _ T67 (mkF m 144 #[.val (.int p1), .val (.int p2), .val (.int p3), .val (.int p4), .val (.int p5), .val (.int x0), .val (.int x2), .val (.int x1), .val (.int (0 : Int32)), .val (.int md), .val (.ref b67), .unset, .unset, .unset, .unset] [])
              refine own_st (fun t k => XS.iloadN X67.here hx rfl (hb hby at_144) rfl  k) ?_
              show own_Go p e below _ T67 (mkF m 145 #[.val (.int p1), .val (.int p2), .val (.int p3), .val (.int p4), .val (.int p5), .val (.int x0), .val (.int x2), .val (.int x1), .val (.int (0 : Int32)), .val (.int md), .val (.ref b67), .unset, .unset, .unset, .unset] [(.int p4)])
              refine own_st (fun t k => XS.istore X67.here hx rfl (hb hby at_145) rfl (l' := #[.val (.int p1), .val (.int p2), .val (.int p3), .val (.int p4), .val (.int p5), .val (.int x0), .val (.int x2), .val (.int x1), .val (.int (0 : Int32)), .val (.int md), .val (.ref b67), .val (.int p4), .unset, .unset, .unset]) rfl k) ?_
              show own_Go p e below _ T67 (mkF m 147 #[.val (.int p1), .val (.int p2), .val (.int p3), .val (.int p4), .val (.int p5), .val (.int x0), .val (.int x2), .val (.int x1), .val (.int (0 : Int32)), .val (.int md), .val (.ref b67), .val (.int p4), .unset, .unset, .unset] [])
              exact tail _
      · rw [hq]
        show own_Go p e below _ T17 (mkF m 55 #[.val (.int p1), .val (.int p2), .val (.int p3), .val (.int p4), .val (.int p5), .val (.int x0), .val (.int x2), .val (.int x1), .unset, .unset, .unset, .unset, .unset, .unset, .unset] [(.int (1 : Int32))])
        refine own_st (fun t k => XS.istore X17.here hx rfl (hb hby at_55) rfl (l' := #[.val (.int p1), .val (.int p2), .val (.int p3), .val (.int p4), .val (.int p5), .val (.int x0), .val (.int x2), .val (.int x1), .val (.int (1 : Int32)), .unset, .unset, .unset, .unset, .unset, .unset]) rfl k) ?_
        show own_Go p e below _ T17 (mkF m 57 #[.val (.int p1), .val (.int p2), .val (.int p3), .val (.int p4), .val (.int p5), .val (.int x0), .val (.int x2), .val (.int x1), .val (.int (1 : Int32)), .unset, .unset, .unset, .unset, .unset, .unset] [])
        refine own_st (fun t k => XS.iload X17.here hx rfl (hb hby at_57) rfl  k) ?_
        show own_Go p e below _ T17 (mkF m 59 #[.val (.int p1), .val (.int p2), .val (.int p3), .val (.int p4), .val (.int p5), .val (.int x0), .val (.int x2), .val (.int x1), .val (.int (1 : Int32)), .unset, .unset, .unset, .unset, .unset, .unset] [(.int p5)])
        refine own_st (fun t k => XS.iconst X17.here hx rfl (hb hby at_59) k) ?_
        show own_Go p e below _ T17 (mkF m 60 #[.val (.int p1), .val (.int p2), .val (.int p3), .val (.int p4), .val (.int p5), .val (.int x0), .val (.int x2), .val (.int x1), .val (.int (1 : Int32)), .unset, .unset, .unset, .unset, .unset, .unset] [(.int (2 : Int32)), (.int p5)])
        refine own_st (fun t k => XS.iushr X17.here hx rfl (hb hby at_60) rfl k) ?_
        show own_Go p e below _ T17 (mkF m 61 #[.val (.int p1), .val (.int p2), .val (.int p3), .val (.int p4), .val (.int p5), .val (.int x0), .val (.int x2), .val (.int x1), .val (.int (1 : Int32)), .unset, .unset, .unset, .unset, .unset, .unset] [(.int ((p5.toUInt32 >>> ((2 : Int32) &&& 31).toUInt32).toInt32))])
        refine own_st (fun t k => XS.iconst X17.here hx rfl (hb hby at_61) k) ?_
        show own_Go p e below _ T17 (mkF m 62 #[.val (.int p1), .val (.int p2), .val (.int p3), .val (.int p4), .val (.int p5), .val (.int x0), .val (.int x2), .val (.int x1), .val (.int (1 : Int32)), .unset, .unset, .unset, .unset, .unset, .unset] [(.int (3 : Int32)), (.int ((p5.toUInt32 >>> ((2 : Int32) &&& 31).toUInt32).toInt32))])
        refine own_st (fun t k => XS.iand X17.here hx rfl (hb hby at_62) rfl k) ?_
        show own_Go p e below _ T17 (mkF m 63 #[.val (.int p1), .val (.int p2), .val (.int p3), .val (.int p4), .val (.int p5), .val (.int x0), .val (.int x2), .val (.int x1), .val (.int (1 : Int32)), .unset, .unset, .unset, .unset, .unset, .unset] [(.int (((p5.toUInt32 >>> ((2 : Int32) &&& 31).toUInt32).toInt32) &&& (3 : Int32)))])
        generalize (((p5.toUInt32 >>> ((2 : Int32) &&& 31).toUInt32).toInt32) &&& (3 : Int32)) = md
        show own_Go p e below _ T17 (mkF m 63 #[.val (.int p1), .val (.int p2), .val (.int p3), .val (.int p4), .val (.int p5), .val (.int x0), .val (.int x2), .val (.int x1), .val (.int (1 : Int32)), .unset, .unset, .unset, .unset, .unset, .unset] [(.int md)])
        refine own_st (fun t k => XS.istore X17.here hx rfl (hb hby at_63) rfl (l' := #[.val (.int p1), .val (.int p2), .val (.int p3), .val (.int p4), .val (.int p5), .val (.int x0), .val (.int x2), .val (.int x1), .val (.int (1 : Int32)), .val (.int md), .unset, .unset, .unset, .unset, .unset]) rfl k) ?_
        show own_Go p e below _ T17 (mkF m 65 #[.val (.int p1), .val (.int p2), .val (.int p3), .val (.int p4), .val (.int p5), .val (.int x0), .val (.int x2), .val (.int x1), .val (.int (1 : Int32)), .val (.int md), .unset, .unset, .unset, .unset, .unset] [])
        refine own_st (fun t k => XS.iload X17.here hx rfl (hb hby at_65) rfl  k) ?_
        show own_Go p e below _ T17 (mkF m 67 #[.val (.int p1), .val (.int p2), .val (.int p3), .val (.int p4), .val (.int p5), .val (.int x0), .val (.int x2), .val (.int x1), .val (.int (1 : Int32)), .val (.int md), .unset, .unset, .unset, .unset, .unset] [(.int (1 : Int32))])
        obtain ⟨T67, h67, k67, X67, e67, E67, A67, st67⟩ := newP X17 hx hZ (hw _ (List.mem_of_getElem? (i := 7) rfl)) k4 (g := (mkF m 67 #[.val (.int p1), .val (.int p2), .val (.int p3), .val (.int p4), .val (.int p5), .val (.int x0), .val (.int x2), .val (.int x1), .val (.int (1 : Int32)), .val (.int md), .unset, .unset, .unset, .unset, .unset] [(.int (1 : Int32))])) rfl (hb hby at_67) rfl (by decide) (cap := 1) (by decide) (by decide) (by decide) (by decide)
        obtain ⟨b67, g67⟩ : ∃ z, z = h0.size := ⟨_, rfl⟩
        rw [← g67] at A67 st67
        have V67 : Arv Z h67 b67 k67 .int (1 : Int32) [(.int (0 : Int32))] (.int (0 : Int32)) := (Arv.new A67 (by decide)).pad (pad_rep [] (.int (0 : Int32)) 1)
        refine own_st st67 ?_
        show own_Go p e below _ T67 (mkF m 69 #[.val (.int p1), .val (.int p2), .val (.int p3), .val (.int p4), .val (.int p5), .val (.int x0), .val (.int x2), .val (.int x1), .val (.int (1 : Int32)), .val (.int md), .unset, .unset, .unset, .unset, .unset] [(.ref b67)])
        have Z67 : n0 ≤ h67.size := Nat.le_trans Z0 E67.1
        have gr : n0 ≤ b67 := Nat.le_trans Z0 (Nat.le_of_eq g67.symm)
        refine own_st (fun t k => XS.astore X67.here hx rfl (hb hby at_69) rfl rfl (l' := #[.val (.int p1), .val (.int p2), .val (.int p3), .val (.int p4), .val (.int p5), .val (.int x0), .val (.int x2), .val (.int x1), .val (.int (1 : Int32)), .val (.int md), .val (.ref b67), .unset, .unset, .unset, .unset]) rfl k) ?_
        show own_Go p e below _ T67 (mkF m 71 #[.val (.int p1), .val (.int p2), .val (.int p3), .val (.int p4), .val (.int p5), .val (.int x0), .val (.int x2), .val (.int x1), .val (.int (1 : Int32)), .val (.int md), .val (.ref b67), .unset, .unset, .unset, .unset] [])
        refine own_st (fun t k => XS.iload X67.here hx rfl (hb hby at_71) rfl  k) ?_
        show own_Go p e below _ T67 (mkF m 73 #[.val (.int p1), .val (.int p2), .val (.int p3), .val (.int p4), .val (.int p5), .val (.int x0), .val (.int x2), .val (.int x1), .val (.int (1 : Int32)), .val (.int md), .val (.ref b67), .unset, .unset, .unset, .unset] [(.int (1 : Int32))])
        refine own_st (fun t k => XS.ifNo X67.here hx rfl (hb hby at_73) rfl ((if0 _ _).trans (tlt (by decide : (0 : Int32) < (1 : Int32))).2.2.2) k) ?_
        show own_Go p e below _ T67 (mkF m 76 #[.val (.int p1), .val (.int p2), .val (.int p3), .val (.int p4), .val (.int p5), .val (.int x0), .val (.int x2), .val (.int x1), .val (.int (1 : Int32)), .val (.int md), .val (.ref b67), .unset, .unset, .unset, .unset] [])
        refine own_st (fun t k => XS.aload X67.here hx rfl (hb hby at_76) rfl rfl k) ?_
        show own_Go p e below _ T67 (mkF m 78 #[.val (.int p1), .val (.int p2), .val (.int p3), .val (.int p4), .val (.int p5), .val (.int x0), .val (.int x2), .val (.int x1), .val (.int (1 : Int32)), .val (.int md), .val (.ref b67), .unset, .unset, .unset, .unset] [(.ref b67)])
        refine own_st (fun t k => XS.iconst X67.here hx rfl (hb hby at_78) k) ?_
        show own_Go p e below _ T67 (mkF m 79 #[.val (.int p1), .val (.int p2), .val (.int p3), .val (.int p4), .val (.int p5), .val (.int x0), .val (.int x2), .val (.int x1), .val (.int (1 : Int32)), .val (.int md), .val (.ref b67), .unset, .unset, .unset, .unset] [(.int (0 : Int32)), (.ref b67)])
        refine own_st (fun t k => XS.iload X67.here hx rfl (hb hby at_79) rfl  k) ?_
        show own_Go p e below _ T67 (mkF m 81 #[.val (.int p1), .val (.int p2), .val (.int p3), .val (.int p4), .val (.int p5), .val (.int x0), .val (.int x2), .val (.int x1), .val (.int (1 : Int32)), .val (.int md), .val (.ref b67), .unset, .unset, .unset, .unset] [(.int x0), (.int (0 : Int32)), (.ref b67)])
        obtain ⟨cl81, Ar81, q81, S81, M81, H81, G81⟩ := V67
        have hin81 : ¬ ((0 : Int32) < 0 ∨ cl81.slots.size ≤ ((0 : Int32)).toNatClampNeg) := inb_of S81 ⟨by decide, by decide⟩
        obtain ⟨T81, h81, X81, e81, W81, st81⟩ := stI X67 hx hZ e67 Ar81 (j := (0 : Int32)) hin81 (g := (mkF m 81 #[.val (.int p1), .val (.int p2), .val (.int p3), .val (.int p4), .val (.int p5), .val (.int x0), .val (.int x2), .val (.int x1), .val (.int (1 : Int32)), .val (.int md), .val (.ref b67), .unset, .unset, .unset, .unset] [(.int x0), (.int (0 : Int32)), (.ref b67)])) rfl rfl (hb hby at_81)
        refine own_st st81 ?_
        have V81 := Arv.set Ar81 q81 S81 M81 H81 G81 rfl W81 0 rfl (Nat.le_of_ble_eq_true rfl)
        have N81 := Fr.snoc X81 Q4 gr
        show own_Go p e below _ T81 (mkF m 82 #[.val (.int p1), .val (.int p2), .val (.int p3), .val (.int p4), .val (.int p5), .val (.int x0), .val (.int x2), .val (.int x1), .val (.int (1 : Int32)), .val (.int md), .val (.ref b67), .unset, .unset, .unset, .unset] [])
        have Z81 : n0 ≤ h81.size := Nat.le_trans Z67 (Keep.of_wr W81).1
        refine own_st (fun t k => XS.iload X81.here hx rfl (hb hby at_82) rfl  k) ?_
        show own_Go p e below _ T81 (mkF m 84 #[.val (.int p1), .val (.int p2), .val (.int p3), .val (.int p4), .val (.int p5), .val (.int x0), .val (.int x2), .val (.int x1), .val (.int (1 : Int32)), .val (.int md), .val (.ref b67), .unset, .unset, .unset, .unset] [(.int (1 : Int32))])
        refine own_st (fun t k => XS.iconst X81.here hx rfl (hb hby at_84) k) ?_
        show own_Go p e below _ T81 (mkF m 85 #[.val (.int p1), .val (.int p2), .val (.int p3), .val (.int p4), .val (.int p5), .val (.int x0), .val (.int x2), .val (.int x1), .val (.int (1 : Int32)), .val (.int md), .val (.ref b67), .unset, .unset, .unset, .unset] [(.int (1 : Int32)), (.int (1 : Int32))])
        refine own_st (fun t k => XS.icmpYes X81.here hx rfl (pc0 := 85) (pc' := 94) rfl (hb hby at_85) rfl (flt (by decide : ¬ (1 : Int32) < (1 : Int32))).2.2.2 (by decide) (by decide) k) ?_
        show own_Go p e below _ T81 (mkF m 94 #[.val (.int p1), .val (.int p2), .val (.int p3), .val (.int p4), .val (.int p5), .val (.int x0), .val (.int x2), .val (.int x1), .val (.int (1 : Int32)), .val (.int md), .val (.ref b67), .unset, .unset, .unset, .unset] [])
        refine own_st (fun t k => XS.iload X81.here hx rfl (hb hby at_94) rfl  k) ?_
        show own_Go p e below _ T81 (mkF m 96 #[.val (.int p1), .val (.int p2), .val (.int p3), .val (.int p4), .val (.int p5), .val (.int x0), .val (.int x2), .val (.int x1), .val (.int (1 : Int32)), .val (.int md), .val (.ref b67), .unset, .unset, .unset, .unset] [(.int (1 : Int32))])
        refine own_st (fun t k => XS.iconst X81.here hx rfl (hb hby at_96) k) ?_
        show own_Go p e below _ T81 (mkF m 97 #[.val (.int p1), .val (.int p2), .val (.int p3), .val (.int p4), .val (.int p5), .val (.int x0), .val (.int x2), .val (.int x1), .val (.int (1 : Int32)), .val (.int md), .val (.ref b67), .unset, .unset, .unset, .unset] [(.int (2 : Int32)), (.int (1 : Int32))])
        refine own_st (fun t k => XS.icmpYes X81.here hx rfl (pc0 := 97) (pc' := 106) rfl (hb hby at_97) rfl (flt (by decide : ¬ (2 : Int32) < (1 : Int32))).2.2.2 (by decide) (by decide) k) ?_
        show own_Go p e below _ T81 (mkF m 106 #[.val (.int p1), .val (.int p2), .val (.int p3), .val (.int p4), .val (.int p5), .val (.int x0), .val (.int x2), .val (.int x1), .val (.int (1 : Int32)), .val (.int md), .val (.ref b67), .unset, .unset, .unset, .unset] [])
        refine own_st (fun t k => XS.iload X81.here hx rfl (hb hby at_106) rfl  k) ?_
        show own_Go p e below _ T81 (mkF m 108 #[.val (.int p1), .val (.int p2), .val (.int p3), .val (.int p4), .val (.int p5), .val (.int x0), .val (.int x2), .val (.int x1), .val (.int (1 : Int32)), .val (.int md), .val (.ref b67), .unset, .unset, .unset, .unset] [(.int md)])
        have tail : ∀ u : Int32, own_Go p e below (own_P s (fun v h L => v = some (.int 1) ∧ Fr n0 L) room_1.cells room_1.slots) T81 (mkF m 147 #[.val (.int p1), .val (.int p2), .val (.int p3), .val (.int p4), .val (.int p5), .val (.int x0), .val (.int x2), .val (.int x1), .val (.int (1 : Int32)), .val (.int md), .val (.ref b67), .val (.int u), .unset, .unset, .unset] []) := by
          intro u
          show own_Go p e below _ T81 (mkF m 147 #[.val (.int p1), .val (.int p2), .val (.int p3), .val (.int p4), .val (.int p5), .val (.int x0), .val (.int x2), .val (.int x1), .val (.int (1 : Int32)), .val (.int md), .val (.ref b67), .val (.int u), .unset, .unset, .unset] [])
          obtain ⟨T147, h147, X147, e147, E147, A147, D147, -, st147⟩ := newO X81 hx hZ hown (hw _ (List.mem_of_getElem? (i := 8) rfl)) (hw _ (List.mem_of_getElem? (i := 9) rfl)) (hw _ (List.mem_of_getElem? (i := 10) rfl)) e81 (g := (mkF m 147 #[.val (.int p1), .val (.int p2), .val (.int p3), .val (.int p4), .val (.int p5), .val (.int x0), .val (.int x2), .val (.int x1), .val (.int (1 : Int32)), .val (.int md), .val (.ref b67), .val (.int u), .unset, .unset, .unset] [])) rfl (hb hby at_147) (by decide) (by decide)
          obtain ⟨b147, g147⟩ : ∃ z, z = h81.size := ⟨_, rfl⟩
          rw [← g147] at A147 D147 st147
          have F147_resources : Fld Z h147 b147 "com/example/rank3/rank3/text/Postings" "resources" "[I" .null := D147 (Or.inr (hw _ (List.mem_of_getElem? (i := 19) rfl))) (ty := (.array .int)) (by decide)
          have F147_titleCounts : Fld Z h147 b147 "com/example/rank3/rank3/text/Postings" "titleCounts" "[I" .null := D147 (Or.inr (hw _ (List.mem_of_getElem? (i := 21) rfl))) (ty := (.array .int)) (by decide)
          have F147_contentCounts : Fld Z h147 b147 "com/example/rank3/rank3/text/Postings" "contentCounts" "[I" .null := D147 (Or.inr (hw _ (List.mem_of_getElem? (i := 23) rfl))) (ty := (.array .int)) (by decide)
          have F147_inStructure : Fld Z h147 b147 "com/example/rank3/rank3/text/Postings" "inStructure" "[Z" .null := D147 (Or.inr (hw _ (List.mem_of_getElem? (i := 25) rfl))) (ty := (.array .boolean)) (by decide)
          have F147_collectionCount : Fld Z h147 b147 "com/example/rank3/rank3/text/Postings" "collectionCount" "J" (.long (0 : Int64)) := D147 (Or.inr (hw _ (List.mem_of_getElem? (i := 27) rfl))) (ty := .long) (by decide)
          refine own_st st147 ?_
          show own_Go p e below _ T147 (mkF m 150 #[.val (.int p1), .val (.int p2), .val (.int p3), .val (.int p4), .val (.int p5), .val (.int x0), .val (.int x2), .val (.int x1), .val (.int (1 : Int32)), .val (.int md), .val (.ref b67), .val (.int u), .unset, .unset, .unset] [(.ref b147)])
          have Z147 : n0 ≤ h147.size := Nat.le_trans Z81 E147.1
          have go : n0 ≤ b147 := Nat.le_trans Z81 (Nat.le_of_eq g147.symm)
          have nr : b67 ≠ b147 := Nat.ne_of_lt (Nat.lt_of_lt_of_le V81.lt (Nat.le_of_eq g147.symm))
          refine own_st (fun t k => XS.dup X147.here hx rfl (hb hby at_150) rfl rfl k) ?_
          show own_Go p e below _ T147 (mkF m 151 #[.val (.int p1), .val (.int p2), .val (.int p3), .val (.int p4), .val (.int p5), .val (.int x0), .val (.int x2), .val (.int x1), .val (.int (1 : Int32)), .val (.int md), .val (.ref b67), .val (.int u), .unset, .unset, .unset] [(.ref b147), (.ref b147)])
          refine own_st (fun t k => XS.aload X147.here hx rfl (hb hby at_151) rfl rfl k) ?_
          show own_Go p e below _ T147 (mkF m 153 #[.val (.int p1), .val (.int p2), .val (.int p3), .val (.int p4), .val (.int p5), .val (.int x0), .val (.int x2), .val (.int x1), .val (.int (1 : Int32)), .val (.int md), .val (.ref b67), .val (.int u), .unset, .unset, .unset] [(.ref b67), (.ref b147), (.ref b147)])
          refine own_st (fun t k => XS.iload X147.here hx rfl (hb hby at_153) rfl  k) ?_
          show own_Go p e below _ T147 (mkF m 155 #[.val (.int p1), .val (.int p2), .val (.int p3), .val (.int p4), .val (.int p5), .val (.int x0), .val (.int x2), .val (.int x1), .val (.int (1 : Int32)), .val (.int md), .val (.ref b67), .val (.int u), .unset, .unset, .unset] [(.int (1 : Int32)), (.ref b67), (.ref b147), (.ref b147)])
          obtain ⟨T155, h155, k155, X155, e155, E155, A155, st155⟩ := newP X147 hx hZ (hw _ (List.mem_of_getElem? (i := 7) rfl)) e147 (g := (mkF m 155 #[.val (.int p1), .val (.int p2), .val (.int p3), .val (.int p4), .val (.int p5), .val (.int x0), .val (.int x2), .val (.int x1), .val (.int (1 : Int32)), .val (.int md), .val (.ref b67), .val (.int u), .unset, .unset, .unset] [(.int (1 : Int32)), (.ref b67), (.ref b147), (.ref b147)])) rfl (hb hby at_155) rfl (by decide) (cap := 1) (by decide) (by decide) (by decide) (by decide)
          obtain ⟨b155, g155⟩ : ∃ z, z = h147.size := ⟨_, rfl⟩
          rw [← g155] at A155 st155
          have V155 : Arv Z h155 b155 k155 .int (1 : Int32) [(.int (0 : Int32))] (.int (0 : Int32)) := (Arv.new A155 (by decide)).pad (pad_rep [] (.int (0 : Int32)) 1)
          refine own_st st155 ?_
          show own_Go p e below _ T155 (mkF m 157 #[.val (.int p1), .val (.int p2), .val (.int p3), .val (.int p4), .val (.int p5), .val (.int x0), .val (.int x2), .val (.int x1), .val (.int (1 : Int32)), .val (.int md), .val (.ref b67), .val (.int u), .unset, .unset, .unset] [(.ref b155), (.ref b67), (.ref b147), (.ref b147)])
          have Z155 : n0 ≤ h155.size := Nat.le_trans Z147 E155.1
          have ne155 : b155 ≠ b147 := Nat.ne_of_gt (Nat.lt_of_lt_of_le A147.lt (Nat.le_of_eq g155.symm))
          refine own_st (fun t k => XS.iload X155.here hx rfl (hb hby at_157) rfl  k) ?_
          show own_Go p e below _ T155 (mkF m 159 #[.val (.int p1), .val (.int p2), .val (.int p3), .val (.int p4), .val (.int p5), .val (.int x0), .val (.int x2), .val (.int x1), .val (.int (1 : Int32)), .val (.int md), .val (.ref b67), .val (.int u), .unset, .unset, .unset] [(.int (1 : Int32)), (.ref b155), (.ref b67), (.ref b147), (.ref b147)])
          obtain ⟨T159, h159, k159, X159, e159, E159, A159, st159⟩ := newP X155 hx hZ (hw _ (List.mem_of_getElem? (i := 7) rfl)) e155 (g := (mkF m 159 #[.val (.int p1), .val (.int p2), .val (.int p3), .val (.int p4), .val (.int p5), .val (.int x0), .val (.int x2), .val (.int x1), .val (.int (1 : Int32)), .val (.int md), .val (.ref b67), .val (.int u), .unset, .unset, .unset] [(.int (1 : Int32)), (.ref b155), (.ref b67), (.ref b147), (.ref b147)])) rfl (hb hby at_159) rfl (by decide) (cap := 1) (by decide) (by decide) (by decide) (by decide)
          obtain ⟨b159, g159⟩ : ∃ z, z = h155.size := ⟨_, rfl⟩
          rw [← g159] at A159 st159
          have V159 : Arv Z h159 b159 k159 .int (1 : Int32) [(.int (0 : Int32))] (.int (0 : Int32)) := (Arv.new A159 (by decide)).pad (pad_rep [] (.int (0 : Int32)) 1)
          refine own_st st159 ?_
          show own_Go p e below _ T159 (mkF m 161 #[.val (.int p1), .val (.int p2), .val (.int p3), .val (.int p4), .val (.int p5), .val (.int x0), .val (.int x2), .val (.int x1), .val (.int (1 : Int32)), .val (.int md), .val (.ref b67), .val (.int u), .unset, .unset, .unset] [(.ref b159), (.ref b155), (.ref b67), (.ref b147), (.ref b147)])
          have Z159 : n0 ≤ h159.size := Nat.le_trans Z155 E159.1
          have ne159 : b159 ≠ b147 := Nat.ne_of_gt (Nat.lt_of_lt_of_le (A147.ext E155).lt (Nat.le_of_eq g159.symm))
          refine own_st (fun t k => XS.iload X159.here hx rfl (hb hby at_161) rfl  k) ?_
          show own_Go p e below _ T159 (mkF m 163 #[.val (.int p1), .val (.int p2), .val (.int p3), .val (.int p4), .val (.int p5), .val (.int x0), .val (.int x2), .val (.int x1), .val (.int (1 : Int32)), .val (.int md), .val (.ref b67), .val (.int u), .unset, .unset, .unset] [(.int (1 : Int32)), (.ref b159), (.ref b155), (.ref b67), (.ref b147), (.ref b147)])
          obtain ⟨T163, h163, k163, X163, e163, E163, A163, st163⟩ := newP X159 hx hZ (hw _ (List.mem_of_getElem? (i := 11) rfl)) e159 (g := (mkF m 163 #[.val (.int p1), .val (.int p2), .val (.int p3), .val (.int p4), .val (.int p5), .val (.int x0), .val (.int x2), .val (.int x1), .val (.int (1 : Int32)), .val (.int md), .val (.ref b67), .val (.int u), .unset, .unset, .unset] [(.int (1 : Int32)), (.ref b159), (.ref b155), (.ref b67), (.ref b147), (.ref b147)])) rfl (hb hby at_163) rfl (by decide) (cap := 1) (by decide) (by decide) (by decide) (by decide)
          obtain ⟨b163, g163⟩ : ∃ z, z = h159.size := ⟨_, rfl⟩
          rw [← g163] at A163 st163
          have V163 : Arv Z h163 b163 k163 .boolean (1 : Int32) [(.int (0 : Int32))] (.int (0 : Int32)) := (Arv.new A163 (by decide)).pad (pad_rep [] (.int (0 : Int32)) 1)
          refine own_st st163 ?_
          show own_Go p e below _ T163 (mkF m 165 #[.val (.int p1), .val (.int p2), .val (.int p3), .val (.int p4), .val (.int p5), .val (.int x0), .val (.int x2), .val (.int x1), .val (.int (1 : Int32)), .val (.int md), .val (.ref b67), .val (.int u), .unset, .unset, .unset] [(.ref b163), (.ref b159), (.ref b155), (.ref b67), (.ref b147), (.ref b147)])
          have Z163 : n0 ≤ h163.size := Nat.le_trans Z159 E163.1
          have ne163 : b163 ≠ b147 := Nat.ne_of_gt (Nat.lt_of_lt_of_le ((A147.ext E155).ext E159).lt (Nat.le_of_eq g163.symm))
          refine own_callI X163 hx hZ (y := (⟨"com/example/rank3/rank3/text/Postings", "<init>", "([I[I[I[Z)V"⟩ : MethodName)) (W := 1) (kc := 0) (ks := 0) rfl hown (hw _ (List.mem_of_getElem? (i := 12) rfl)) (hw _ (List.mem_of_getElem? (i := 13) rfl)) (hw _ (List.mem_of_getElem? (i := 14) rfl)) (own_back (W := 1) (rm_in1 l Z a0 hw [] b147 b67 b155 b159 b163 k159 h163 n0 Z163 (((A147.ext E155).ext E159).ext E163) (((F147_resources.ext E155).ext E159).ext E163) (((F147_titleCounts.ext E155).ext E159).ext E163) (((F147_contentCounts.ext E155).ext E159).ext E163) (((F147_inStructure.ext E155).ext E159).ext E163) (((F147_collectionCount.ext E155).ext E159).ext E163) go (V159.ext E163) ne159) hZ (hw _ (List.mem_of_getElem? (i := 14) rfl)) (hw _ (List.mem_of_getElem? (i := 10) rfl)) (by decide) (by decide)) (by decide) (g := (mkF m 165 #[.val (.int p1), .val (.int p2), .val (.int p3), .val (.int p4), .val (.int p5), .val (.int x0), .val (.int x2), .val (.int x1), .val (.int (1 : Int32)), .val (.int md), .val (.ref b67), .val (.int u), .unset, .unset, .unset] [(.ref b163), (.ref b159), (.ref b155), (.ref b67), (.ref b147), (.ref b147)])) rfl (by rw [hml]; rfl) (a := b147) (argsL := [(.ref b67), (.ref b155), (.ref b159), (.ref b163)]) (rest := [(.ref b147)]) (lenOf pd_3 rfl) rfl (by show 2 * 0 + _ ≤ _; exact Nat.le_of_eq rfl) (hb hby at_165) rfl e163 (by decide) (by decide) (fun v165 T165 L165 X165 hQ165 => ?_)
          obtain ⟨rfl, M165, K165, E165, F165⟩ := hQ165
          have N165 := Fr.app N81 M165
          have Z165 : n0 ≤ T165.heap.size := Nat.le_trans Z163 K165.1
          have V165 := ((((V81.ext E147).ext E155).ext E159).ext E163).keep K165 (ninS nr nin0)
          show own_Go p e below _ T165 (mkF m 168 #[.val (.int p1), .val (.int p2), .val (.int p3), .val (.int p4), .val (.int p5), .val (.int x0), .val (.int x2), .val (.int x1), .val (.int (1 : Int32)), .val (.int md), .val (.ref b67), .val (.int u), .unset, .unset, .unset] [(.ref b147)])
          refine own_st (fun t k => XS.astore X165.here hx rfl (hb hby at_168) rfl rfl (l' := #[.val (.int p1), .val (.int p2), .val (.int p3), .val (.int p4), .val (.int p5), .val (.int x0), .val (.int x2), .val (.int x1), .val (.int (1 : Int32)), .val (.int md), .val (.ref b67), .val (.int u), .val (.ref b147), .unset, .unset]) rfl k) ?_
          show own_Go p e below _ T165 (mkF m 170 #[.val (.int p1), .val (.int p2), .val (.int p3), .val (.int p4), .val (.int p5), .val (.int x0), .val (.int x2), .val (.int x1), .val (.int (1 : Int32)), .val (.int md), .val (.ref b67), .val (.int u), .val (.ref b147), .unset, .unset] [])
          refine own_st (fun t k => XS.aload X165.here hx rfl (hb hby at_170) rfl rfl k) ?_
          show own_Go p e below _ T165 (mkF m 172 #[.val (.int p1), .val (.int p2), .val (.int p3), .val (.int p4), .val (.int p5), .val (.int x0), .val (.int x2), .val (.int x1), .val (.int (1 : Int32)), .val (.int md), .val (.ref b67), .val (.int u), .val (.ref b147), .unset, .unset] [(.ref b147)])
          refine own_st (fun t k => XS.iload X165.here hx rfl (hb hby at_172) rfl  k) ?_
          show own_Go p e below _ T165 (mkF m 174 #[.val (.int p1), .val (.int p2), .val (.int p3), .val (.int p4), .val (.int p5), .val (.int x0), .val (.int x2), .val (.int x1), .val (.int (1 : Int32)), .val (.int md), .val (.ref b67), .val (.int u), .val (.ref b147), .unset, .unset] [(.int u), (.ref b147)])
          refine own_callV X165 hx hZ (y := (⟨"com/example/rank3/rank3/text/Postings", "indexOf", "(I)I"⟩ : MethodName)) (W := 0) (kc := 0) (ks := 0) hown (hw _ (List.mem_of_getElem? (i := 28) rfl)) (hw _ (List.mem_of_getElem? (i := 29) rfl)) (hw _ (List.mem_of_getElem? (i := 31) rfl)) (hw _ (List.mem_of_getElem? (i := 30) rfl)) (own_back (W := 0) (rm_ix1 l Z a0 hw [] b147 b67 k67 x0 u T165.heap n0 Z165 F165 V165 ) hZ (hw _ (List.mem_of_getElem? (i := 32) rfl)) (hw _ (List.mem_of_getElem? (i := 10) rfl)) (by decide) (by decide)) (by decide) (b := b147) E165 (g := (mkF m 174 #[.val (.int p1), .val (.int p2), .val (.int p3), .val (.int p4), .val (.int p5), .val (.int x0), .val (.int x2), .val (.int x1), .val (.int (1 : Int32)), .val (.int md), .val (.ref b67), .val (.int u), .val (.ref b147), .unset, .unset] [(.int u), (.ref b147)])) rfl (by rw [hml]; rfl) (argsL := [(.int u)]) (rest := []) (lenOf pd_4 rfl) rfl (by show 2 * 0 + _ ≤ _; exact Nat.le_of_eq rfl) (hb hby at_174) rfl rfl (by decide) (by decide) (fun v174 T174 L174 X174 hQ174 => ?_)
          obtain ⟨r, rfl, hr, M174, e174⟩ := hQ174
          have N174 := Fr.app N165 M174
          show own_Go p e below _ T174 (mkF m 177 #[.val (.int p1), .val (.int p2), .val (.int p3), .val (.int p4), .val (.int p5), .val (.int x0), .val (.int x2), .val (.int x1), .val (.int (1 : Int32)), .val (.int md), .val (.ref b67), .val (.int u), .val (.ref b147), .unset, .unset] [(.int r)])
          refine own_st (fun t k => XS.istore X174.here hx rfl (hb hby at_177) rfl (l' := #[.val (.int p1), .val (.int p2), .val (.int p3), .val (.int p4), .val (.int p5), .val (.int x0), .val (.int x2), .val (.int x1), .val (.int (1 : Int32)), .val (.int md), .val (.ref b67), .val (.int u), .val (.ref b147), .val (.int r), .unset]) rfl k) ?_
          show own_Go p e below _ T174 (mkF m 179 #[.val (.int p1), .val (.int p2), .val (.int p3), .val (.int p4), .val (.int p5), .val (.int x0), .val (.int x2), .val (.int x1), .val (.int (1 : Int32)), .val (.int md), .val (.ref b67), .val (.int u), .val (.ref b147), .val (.int r), .unset] [])
          refine own_st (fun t k => XS.iconst X174.here hx rfl (hb hby at_179) k) ?_
          show own_Go p e below _ T174 (mkF m 180 #[.val (.int p1), .val (.int p2), .val (.int p3), .val (.int p4), .val (.int p5), .val (.int x0), .val (.int x2), .val (.int x1), .val (.int (1 : Int32)), .val (.int md), .val (.ref b67), .val (.int u), .val (.ref b147), .val (.int r), .unset] [(.int (-1 : Int32))])
          refine own_st (fun t k => XS.istore X174.here hx rfl (hb hby at_180) rfl (l' := #[.val (.int p1), .val (.int p2), .val (.int p3), .val (.int p4), .val (.int p5), .val (.int x0), .val (.int x2), .val (.int x1), .val (.int (1 : Int32)), .val (.int md), .val (.ref b67), .val (.int u), .val (.ref b147), .val (.int r), .val (.int (-1 : Int32))]) rfl k) ?_
          show own_Go p e below _ T174 (mkF m 182 #[.val (.int p1), .val (.int p2), .val (.int p3), .val (.int p4), .val (.int p5), .val (.int x0), .val (.int x2), .val (.int x1), .val (.int (1 : Int32)), .val (.int md), .val (.ref b67), .val (.int u), .val (.ref b147), .val (.int r), .val (.int (-1 : Int32))] [])
          refine own_st (fun t k => XS.iload X174.here hx rfl (hb hby at_182) rfl  k) ?_
          show own_Go p e below _ T174 (mkF m 184 #[.val (.int p1), .val (.int p2), .val (.int p3), .val (.int p4), .val (.int p5), .val (.int x0), .val (.int x2), .val (.int x1), .val (.int (1 : Int32)), .val (.int md), .val (.ref b67), .val (.int u), .val (.ref b147), .val (.int r), .val (.int (-1 : Int32))] [(.int (1 : Int32))])
          rcases hr with ⟨hr, hu⟩ | ⟨hr, hu0⟩
          · subst hr
            show own_Go p e below _ T174 (mkF m 184 #[.val (.int p1), .val (.int p2), .val (.int p3), .val (.int p4), .val (.int p5), .val (.int x0), .val (.int x2), .val (.int x1), .val (.int (1 : Int32)), .val (.int md), .val (.ref b67), .val (.int u), .val (.ref b147), .val (.int (0 : Int32)), .val (.int (-1 : Int32))] [(.int (1 : Int32))])
            refine own_st (fun t k => XS.ifNo X174.here hx rfl (hb hby at_184) rfl ((if0 _ _).trans (tlt (by decide : (0 : Int32) < (1 : Int32))).2.2.2) k) ?_
            show own_Go p e below _ T174 (mkF m 187 #[.val (.int p1), .val (.int p2), .val (.int p3), .val (.int p4), .val (.int p5), .val (.int x0), .val (.int x2), .val (.int x1), .val (.int (1 : Int32)), .val (.int md), .val (.ref b67), .val (.int u), .val (.ref b147), .val (.int (0 : Int32)), .val (.int (-1 : Int32))] [])
            refine own_st (fun t k => XS.iload X174.here hx rfl (hb hby at_187) rfl  k) ?_
            show own_Go p e below _ T174 (mkF m 189 #[.val (.int p1), .val (.int p2), .val (.int p3), .val (.int p4), .val (.int p5), .val (.int x0), .val (.int x2), .val (.int x1), .val (.int (1 : Int32)), .val (.int md), .val (.ref b67), .val (.int u), .val (.ref b147), .val (.int (0 : Int32)), .val (.int (-1 : Int32))] [(.int u)])
            refine own_st (fun t k => XS.iload X174.here hx rfl (hb hby at_189) rfl  k) ?_
            show own_Go p e below _ T174 (mkF m 191 #[.val (.int p1), .val (.int p2), .val (.int p3), .val (.int p4), .val (.int p5), .val (.int x0), .val (.int x2), .val (.int x1), .val (.int (1 : Int32)), .val (.int md), .val (.ref b67), .val (.int u), .val (.ref b147), .val (.int (0 : Int32)), .val (.int (-1 : Int32))] [(.int x0), (.int u)])
            refine own_st (fun t k => XS.icmpNo X174.here hx rfl (hb hby at_191) rfl (teq hu).2 k) ?_
            show own_Go p e below _ T174 (mkF m 194 #[.val (.int p1), .val (.int p2), .val (.int p3), .val (.int p4), .val (.int p5), .val (.int x0), .val (.int x2), .val (.int x1), .val (.int (1 : Int32)), .val (.int md), .val (.ref b67), .val (.int u), .val (.ref b147), .val (.int (0 : Int32)), .val (.int (-1 : Int32))] [])
            refine own_st (fun t k => XS.iconst X174.here hx rfl (hb hby at_194) k) ?_
            show own_Go p e below _ T174 (mkF m 195 #[.val (.int p1), .val (.int p2), .val (.int p3), .val (.int p4), .val (.int p5), .val (.int x0), .val (.int x2), .val (.int x1), .val (.int (1 : Int32)), .val (.int md), .val (.ref b67), .val (.int u), .val (.ref b147), .val (.int (0 : Int32)), .val (.int (-1 : Int32))] [(.int (0 : Int32))])
            refine own_st (fun t k => XS.istore X174.here hx rfl (hb hby at_195) rfl (l' := #[.val (.int p1), .val (.int p2), .val (.int p3), .val (.int p4), .val (.int p5), .val (.int x0), .val (.int x2), .val (.int x1), .val (.int (1 : Int32)), .val (.int md), .val (.ref b67), .val (.int u), .val (.ref b147), .val (.int (0 : Int32)), .val (.int (0 : Int32))]) rfl k) ?_
            show own_Go p e below _ T174 (mkF m 197 #[.val (.int p1), .val (.int p2), .val (.int p3), .val (.int p4), .val (.int p5), .val (.int x0), .val (.int x2), .val (.int x1), .val (.int (1 : Int32)), .val (.int md), .val (.ref b67), .val (.int u), .val (.ref b147), .val (.int (0 : Int32)), .val (.int (0 : Int32))] [])
            refine own_st (fun t k => XS.iload X174.here hx rfl (hb hby at_197) rfl  k) ?_
            show own_Go p e below _ T174 (mkF m 199 #[.val (.int p1), .val (.int p2), .val (.int p3), .val (.int p4), .val (.int p5), .val (.int x0), .val (.int x2), .val (.int x1), .val (.int (1 : Int32)), .val (.int md), .val (.ref b67), .val (.int u), .val (.ref b147), .val (.int (0 : Int32)), .val (.int (0 : Int32))] [(.int (1 : Int32))])
            refine own_st (fun t k => XS.iconst X174.here hx rfl (hb hby at_199) k) ?_
            show own_Go p e below _ T174 (mkF m 200 #[.val (.int p1), .val (.int p2), .val (.int p3), .val (.int p4), .val (.int p5), .val (.int x0), .val (.int x2), .val (.int x1), .val (.int (1 : Int32)), .val (.int md), .val (.ref b67), .val (.int u), .val (.ref b147), .val (.int (0 : Int32)), .val (.int (0 : Int32))] [(.int (1 : Int32)), (.int (1 : Int32))])
            refine own_st (fun t k => XS.icmpYes X174.here hx rfl (pc0 := 200) (pc' := 213) rfl (hb hby at_200) rfl (flt (by decide : ¬ (1 : Int32) < (1 : Int32))).2.2.2 (by decide) (by decide) k) ?_
            show own_Go p e below _ T174 (mkF m 213 #[.val (.int p1), .val (.int p2), .val (.int p3), .val (.int p4), .val (.int p5), .val (.int x0), .val (.int x2), .val (.int x1), .val (.int (1 : Int32)), .val (.int md), .val (.ref b67), .val (.int u), .val (.ref b147), .val (.int (0 : Int32)), .val (.int (0 : Int32))] [])
            refine own_st (fun t k => XS.iload X174.here hx rfl (hb hby at_213) rfl  k) ?_
            show own_Go p e below _ T174 (mkF m 215 #[.val (.int p1), .val (.int p2), .val (.int p3), .val (.int p4), .val (.int p5), .val (.int x0), .val (.int x2), .val (.int x1), .val (.int (1 : Int32)), .val (.int md), .val (.ref b67), .val (.int u), .val (.ref b147), .val (.int (0 : Int32)), .val (.int (0 : Int32))] [(.int (1 : Int32))])
            refine own_st (fun t k => XS.iconst X174.here hx rfl (hb hby at_215) k) ?_
            show own_Go p e below _ T174 (mkF m 216 #[.val (.int p1), .val (.int p2), .val (.int p3), .val (.int p4), .val (.int p5), .val (.int x0), .val (.int x2), .val (.int x1), .val (.int (1 : Int32)), .val (.int md), .val (.ref b67), .val (.int u), .val (.ref b147), .val (.int (0 : Int32)), .val (.int (0 : Int32))] [(.int (2 : Int32)), (.int (1 : Int32))])
            refine own_st (fun t k => XS.icmpYes X174.here hx rfl (pc0 := 216) (pc' := 229) rfl (hb hby at_216) rfl (flt (by decide : ¬ (2 : Int32) < (1 : Int32))).2.2.2 (by decide) (by decide) k) ?_
            show own_Go p e below _ T174 (mkF m 229 #[.val (.int p1), .val (.int p2), .val (.int p3), .val (.int p4), .val (.int p5), .val (.int x0), .val (.int x2), .val (.int x1), .val (.int (1 : Int32)), .val (.int md), .val (.ref b67), .val (.int u), .val (.ref b147), .val (.int (0 : Int32)), .val (.int (0 : Int32))] [])
            refine own_st (fun t k => XS.iload X174.here hx rfl (hb hby at_229) rfl  k) ?_
            show own_Go p e below _ T174 (mkF m 231 #[.val (.int p1), .val (.int p2), .val (.int p3), .val (.int p4), .val (.int p5), .val (.int x0), .val (.int x2), .val (.int x1), .val (.int (1 : Int32)), .val (.int md), .val (.ref b67), .val (.int u), .val (.ref b147), .val (.int (0 : Int32)), .val (.int (0 : Int32))] [(.int (0 : Int32))])
            refine own_st (fun t k => XS.iload X174.here hx rfl (hb hby at_231) rfl  k) ?_
            show own_Go p e below _ T174 (mkF m 233 #[.val (.int p1), .val (.int p2), .val (.int p3), .val (.int p4), .val (.int p5), .val (.int x0), .val (.int x2), .val (.int x1), .val (.int (1 : Int32)), .val (.int md), .val (.ref b67), .val (.int u), .val (.ref b147), .val (.int (0 : Int32)), .val (.int (0 : Int32))] [(.int (0 : Int32)), (.int (0 : Int32))])
            refine own_st (fun t k => XS.icmpNo X174.here hx rfl (hb hby at_233) rfl (teq (rfl : (0 : Int32) = (0 : Int32))).2 k) ?_
            show own_Go p e below _ T174 (mkF m 236 #[.val (.int p1), .val (.int p2), .val (.int p3), .val (.int p4), .val (.int p5), .val (.int x0), .val (.int x2), .val (.int x1), .val (.int (1 : Int32)), .val (.int md), .val (.ref b67), .val (.int u), .val (.ref b147), .val (.int (0 : Int32)), .val (.int (0 : Int32))] [])
            refine own_st (fun t k => XS.iconst X174.here hx rfl (hb hby at_236) k) ?_
            show own_Go p e below _ T174 (mkF m 237 #[.val (.int p1), .val (.int p2), .val (.int p3), .val (.int p4), .val (.int p5), .val (.int x0), .val (.int x2), .val (.int x1), .val (.int (1 : Int32)), .val (.int md), .val (.ref b67), .val (.int u), .val (.ref b147), .val (.int (0 : Int32)), .val (.int (0 : Int32))] [(.int (1 : Int32))])
            refine own_st (fun t k => XS.goto X174.here hx rfl (pc0 := 237) (pc' := 241) rfl (hb hby at_237) (by decide) (by decide) k) ?_
            show own_Go p e below _ T174 (mkF m 241 #[.val (.int p1), .val (.int p2), .val (.int p3), .val (.int p4), .val (.int p5), .val (.int x0), .val (.int x2), .val (.int x1), .val (.int (1 : Int32)), .val (.int md), .val (.ref b67), .val (.int u), .val (.ref b147), .val (.int (0 : Int32)), .val (.int (0 : Int32))] [(.int (1 : Int32))])
            refine own_retN (t := .boolean) X174 hx hlk hret (by simp) (hb hby at_241) ?_ (by decide) (by decide)
            exact ⟨rfl, N174⟩
          · subst hr
            show own_Go p e below _ T174 (mkF m 184 #[.val (.int p1), .val (.int p2), .val (.int p3), .val (.int p4), .val (.int p5), .val (.int x0), .val (.int x2), .val (.int x1), .val (.int (1 : Int32)), .val (.int md), .val (.ref b67), .val (.int u), .val (.ref b147), .val (.int (-1 : Int32)), .val (.int (-1 : Int32))] [(.int (1 : Int32))])
            refine own_st (fun t k => XS.ifNo X174.here hx rfl (hb hby at_184) rfl ((if0 _ _).trans (tlt (by decide : (0 : Int32) < (1 : Int32))).2.2.2) k) ?_
            show own_Go p e below _ T174 (mkF m 187 #[.val (.int p1), .val (.int p2), .val (.int p3), .val (.int p4), .val (.int p5), .val (.int x0), .val (.int x2), .val (.int x1), .val (.int (1 : Int32)), .val (.int md), .val (.ref b67), .val (.int u), .val (.ref b147), .val (.int (-1 : Int32)), .val (.int (-1 : Int32))] [])
            refine own_st (fun t k => XS.iload X174.here hx rfl (hb hby at_187) rfl  k) ?_
            show own_Go p e below _ T174 (mkF m 189 #[.val (.int p1), .val (.int p2), .val (.int p3), .val (.int p4), .val (.int p5), .val (.int x0), .val (.int x2), .val (.int x1), .val (.int (1 : Int32)), .val (.int md), .val (.ref b67), .val (.int u), .val (.ref b147), .val (.int (-1 : Int32)), .val (.int (-1 : Int32))] [(.int u)])
            refine own_st (fun t k => XS.iload X174.here hx rfl (hb hby at_189) rfl  k) ?_
            show own_Go p e below _ T174 (mkF m 191 #[.val (.int p1), .val (.int p2), .val (.int p3), .val (.int p4), .val (.int p5), .val (.int x0), .val (.int x2), .val (.int x1), .val (.int (1 : Int32)), .val (.int md), .val (.ref b67), .val (.int u), .val (.ref b147), .val (.int (-1 : Int32)), .val (.int (-1 : Int32))] [(.int x0), (.int u)])
            refine own_st (fun t k => XS.icmpYes X174.here hx rfl (pc0 := 191) (pc' := 197) rfl (hb hby at_191) rfl (feq hu0).2 (by decide) (by decide) k) ?_
            show own_Go p e below _ T174 (mkF m 197 #[.val (.int p1), .val (.int p2), .val (.int p3), .val (.int p4), .val (.int p5), .val (.int x0), .val (.int x2), .val (.int x1), .val (.int (1 : Int32)), .val (.int md), .val (.ref b67), .val (.int u), .val (.ref b147), .val (.int (-1 : Int32)), .val (.int (-1 : Int32))] [])
            refine own_st (fun t k => XS.iload X174.here hx rfl (hb hby at_197) rfl  k) ?_
            show own_Go p e below _ T174 (mkF m 199 #[.val (.int p1), .val (.int p2), .val (.int p3), .val (.int p4), .val (.int p5), .val (.int x0), .val (.int x2), .val (.int x1), .val (.int (1 : Int32)), .val (.int md), .val (.ref b67), .val (.int u), .val (.ref b147), .val (.int (-1 : Int32)), .val (.int (-1 : Int32))] [(.int (1 : Int32))])
            refine own_st (fun t k => XS.iconst X174.here hx rfl (hb hby at_199) k) ?_
            show own_Go p e below _ T174 (mkF m 200 #[.val (.int p1), .val (.int p2), .val (.int p3), .val (.int p4), .val (.int p5), .val (.int x0), .val (.int x2), .val (.int x1), .val (.int (1 : Int32)), .val (.int md), .val (.ref b67), .val (.int u), .val (.ref b147), .val (.int (-1 : Int32)), .val (.int (-1 : Int32))] [(.int (1 : Int32)), (.int (1 : Int32))])
            refine own_st (fun t k => XS.icmpYes X174.here hx rfl (pc0 := 200) (pc' := 213) rfl (hb hby at_200) rfl (flt (by decide : ¬ (1 : Int32) < (1 : Int32))).2.2.2 (by decide) (by decide) k) ?_
            show own_Go p e below _ T174 (mkF m 213 #[.val (.int p1), .val (.int p2), .val (.int p3), .val (.int p4), .val (.int p5), .val (.int x0), .val (.int x2), .val (.int x1), .val (.int (1 : Int32)), .val (.int md), .val (.ref b67), .val (.int u), .val (.ref b147), .val (.int (-1 : Int32)), .val (.int (-1 : Int32))] [])
            refine own_st (fun t k => XS.iload X174.here hx rfl (hb hby at_213) rfl  k) ?_
            show own_Go p e below _ T174 (mkF m 215 #[.val (.int p1), .val (.int p2), .val (.int p3), .val (.int p4), .val (.int p5), .val (.int x0), .val (.int x2), .val (.int x1), .val (.int (1 : Int32)), .val (.int md), .val (.ref b67), .val (.int u), .val (.ref b147), .val (.int (-1 : Int32)), .val (.int (-1 : Int32))] [(.int (1 : Int32))])
            refine own_st (fun t k => XS.iconst X174.here hx rfl (hb hby at_215) k) ?_
            show own_Go p e below _ T174 (mkF m 216 #[.val (.int p1), .val (.int p2), .val (.int p3), .val (.int p4), .val (.int p5), .val (.int x0), .val (.int x2), .val (.int x1), .val (.int (1 : Int32)), .val (.int md), .val (.ref b67), .val (.int u), .val (.ref b147), .val (.int (-1 : Int32)), .val (.int (-1 : Int32))] [(.int (2 : Int32)), (.int (1 : Int32))])
            refine own_st (fun t k => XS.icmpYes X174.here hx rfl (pc0 := 216) (pc' := 229) rfl (hb hby at_216) rfl (flt (by decide : ¬ (2 : Int32) < (1 : Int32))).2.2.2 (by decide) (by decide) k) ?_
            show own_Go p e below _ T174 (mkF m 229 #[.val (.int p1), .val (.int p2), .val (.int p3), .val (.int p4), .val (.int p5), .val (.int x0), .val (.int x2), .val (.int x1), .val (.int (1 : Int32)), .val (.int md), .val (.ref b67), .val (.int u), .val (.ref b147), .val (.int (-1 : Int32)), .val (.int (-1 : Int32))] [])
            refine own_st (fun t k => XS.iload X174.here hx rfl (hb hby at_229) rfl  k) ?_
            show own_Go p e below _ T174 (mkF m 231 #[.val (.int p1), .val (.int p2), .val (.int p3), .val (.int p4), .val (.int p5), .val (.int x0), .val (.int x2), .val (.int x1), .val (.int (1 : Int32)), .val (.int md), .val (.ref b67), .val (.int u), .val (.ref b147), .val (.int (-1 : Int32)), .val (.int (-1 : Int32))] [(.int (-1 : Int32))])
            refine own_st (fun t k => XS.iload X174.here hx rfl (hb hby at_231) rfl  k) ?_
            show own_Go p e below _ T174 (mkF m 233 #[.val (.int p1), .val (.int p2), .val (.int p3), .val (.int p4), .val (.int p5), .val (.int x0), .val (.int x2), .val (.int x1), .val (.int (1 : Int32)), .val (.int md), .val (.ref b67), .val (.int u), .val (.ref b147), .val (.int (-1 : Int32)), .val (.int (-1 : Int32))] [(.int (-1 : Int32)), (.int (-1 : Int32))])
            refine own_st (fun t k => XS.icmpNo X174.here hx rfl (hb hby at_233) rfl (teq (rfl : (-1 : Int32) = (-1 : Int32))).2 k) ?_
            show own_Go p e below _ T174 (mkF m 236 #[.val (.int p1), .val (.int p2), .val (.int p3), .val (.int p4), .val (.int p5), .val (.int x0), .val (.int x2), .val (.int x1), .val (.int (1 : Int32)), .val (.int md), .val (.ref b67), .val (.int u), .val (.ref b147), .val (.int (-1 : Int32)), .val (.int (-1 : Int32))] [])
            refine own_st (fun t k => XS.iconst X174.here hx rfl (hb hby at_236) k) ?_
            show own_Go p e below _ T174 (mkF m 237 #[.val (.int p1), .val (.int p2), .val (.int p3), .val (.int p4), .val (.int p5), .val (.int x0), .val (.int x2), .val (.int x1), .val (.int (1 : Int32)), .val (.int md), .val (.ref b67), .val (.int u), .val (.ref b147), .val (.int (-1 : Int32)), .val (.int (-1 : Int32))] [(.int (1 : Int32))])
            refine own_st (fun t k => XS.goto X174.here hx rfl (pc0 := 237) (pc' := 241) rfl (hb hby at_237) (by decide) (by decide) k) ?_
            show own_Go p e below _ T174 (mkF m 241 #[.val (.int p1), .val (.int p2), .val (.int p3), .val (.int p4), .val (.int p5), .val (.int x0), .val (.int x2), .val (.int x1), .val (.int (1 : Int32)), .val (.int md), .val (.ref b67), .val (.int u), .val (.ref b147), .val (.int (-1 : Int32)), .val (.int (-1 : Int32))] [(.int (1 : Int32))])
            refine own_retN (t := .boolean) X174 hx hlk hret (by simp) (hb hby at_241) ?_ (by decide) (by decide)
            exact ⟨rfl, N174⟩
        by_cases hm0 : md = (0 : Int32)
        · refine own_st (fun t k => XS.ifNo X81.here hx rfl (hb hby at_108) rfl ((if0 _ _).trans (teq hm0).2) k) ?_
          show own_Go p e below _ T81 (mkF m 111 #[.val (.int p1), .val (.int p2), .val (.int p3), .val (.int p4), .val (.int p5), .val (.int x0), .val (.int x2), .val (.int x1), .val (.int (1 : Int32)), .val (.int md), .val (.ref b67), .unset, .unset, .unset, .unset] [])
          refine own_st (fun t k => XS.iload X81.here hx rfl (hb hby at_111) rfl  k) ?_
          show own_Go p e below _ T81 (mkF m 113 #[.val (.int p1), .val (.int p2), .val (.int p3), .val (.int p4), .val (.int p5), .val (.int x0), .val (.int x2), .val (.int x1), .val (.int (1 : Int32)), .val (.int md), .val (.ref b67), .unset, .unset, .unset, .unset] [(.int x0)])
          refine own_st (fun t k => XS.istore X81.here hx rfl (hb hby at_113) rfl (l' := #[.val (.int p1), .val (.int p2), .val (.int p3), .val (.int p4), .val (.int p5), .val (.int x0), .val (.int x2), .val (.int x1), .val (.int (1 : Int32)), .val (.int md), .val (.ref b67), .val (.int x0), .unset, .unset, .unset]) rfl k) ?_
          show own_Go p e below _ T81 (mkF m 115 #[.val (.int p1), .val (.int p2), .val (.int p3), .val (.int p4), .val (.int p5), .val (.int x0), .val (.int x2), .val (.int x1), .val (.int (1 : Int32)), .val (.int md), .val (.ref b67), .val (.int x0), .unset, .unset, .unset] [])
          refine own_st (fun t k => XS.goto X81.here hx rfl (pc0 := 115) (pc' := 147) rfl (hb hby at_115) (by decide) (by decide) k) ?_
          show own_Go p e below _ T81 (mkF m 147 #[.val (.int p1), .val (.int p2), .val (.int p3), .val (.int p4), .val (.int p5), .val (.int x0), .val (.int x2), .val (.int x1), .val (.int (1 : Int32)), .val (.int md), .val (.ref b67), .val (.int x0), .unset, .unset, .unset] [])
          exact tail _
        · refine own_st (fun t k => XS.ifYes X81.here hx rfl (pc0 := 108) (pc' := 118) rfl (hb hby at_108) rfl ((if0 _ _).trans (feq hm0).2) (by decide) (by decide) k) ?_
          show own_Go p e below _ T81 (mkF m 118 #[.val (.int p1), .val (.int p2), .val (.int p3), .val (.int p4), .val (.int p5), .val (.int x0), .val (.int x2), .val (.int x1), .val (.int (1 : Int32)), .val (.int md), .val (.ref b67), .unset, .unset, .unset, .unset] [])
          refine own_st (fun t k => XS.iload X81.here hx rfl (hb hby at_118) rfl  k) ?_
          show own_Go p e below _ T81 (mkF m 120 #[.val (.int p1), .val (.int p2), .val (.int p3), .val (.int p4), .val (.int p5), .val (.int x0), .val (.int x2), .val (.int x1), .val (.int (1 : Int32)), .val (.int md), .val (.ref b67), .unset, .unset, .unset, .unset] [(.int md)])
          refine own_st (fun t k => XS.iconst X81.here hx rfl (hb hby at_120) k) ?_
          show own_Go p e below _ T81 (mkF m 121 #[.val (.int p1), .val (.int p2), .val (.int p3), .val (.int p4), .val (.int p5), .val (.int x0), .val (.int x2), .val (.int x1), .val (.int (1 : Int32)), .val (.int md), .val (.ref b67), .unset, .unset, .unset, .unset] [(.int (1 : Int32)), (.int md)])
          by_cases hm1 : md = (1 : Int32)
          · refine own_st (fun t k => XS.icmpNo X81.here hx rfl (hb hby at_121) rfl (teq hm1).2 k) ?_
            show own_Go p e below _ T81 (mkF m 124 #[.val (.int p1), .val (.int p2), .val (.int p3), .val (.int p4), .val (.int p5), .val (.int x0), .val (.int x2), .val (.int x1), .val (.int (1 : Int32)), .val (.int md), .val (.ref b67), .unset, .unset, .unset, .unset] [])
            refine own_st (fun t k => XS.iload X81.here hx rfl (hb hby at_124) rfl  k) ?_
            show own_Go p e below _ T81 (mkF m 126 #[.val (.int p1), .val (.int p2), .val (.int p3), .val (.int p4), .val (.int p5), .val (.int x0), .val (.int x2), .val (.int x1), .val (.int (1 : Int32)), .val (.int md), .val (.ref b67), .unset, .unset, .unset, .unset] [(.int x1)])
            refine own_st (fun t k => XS.istore X81.here hx rfl (hb hby at_126) rfl (l' := #[.val (.int p1), .val (.int p2), .val (.int p3), .val (.int p4), .val (.int p5), .val (.int x0), .val (.int x2), .val (.int x1), .val (.int (1 : Int32)), .val (.int md), .val (.ref b67), .val (.int x1), .unset, .unset, .unset]) rfl k) ?_
            show own_Go p e below _ T81 (mkF m 128 #[.val (.int p1), .val (.int p2), .val (.int p3), .val (.int p4), .val (.int p5), .val (.int x0), .val (.int x2), .val (.int x1), .val (.int (1 : Int32)), .val (.int md), .val (.ref b67), .val (.int x1), .unset, .unset, .unset] [])
            refine own_st (fun t k => XS.goto X81.here hx rfl (pc0 := 128) (pc' := 147) rfl (hb hby at_128) (by decide) (by decide) k) ?_
            show own_Go p e below _ T81 (mkF m 147 #[.val (.int p1), .val (.int p2), .val (.int p3), .val (.int p4), .val (.int p5), .val (.int x0), .val (.int x2), .val (.int x1), .val (.int (1 : Int32)), .val (.int md), .val (.ref b67), .val (.int x1), .unset, .unset, .unset] [])
            exact tail _
          · refine own_st (fun t k => XS.icmpYes X81.here hx rfl (pc0 := 121) (pc' := 131) rfl (hb hby at_121) rfl (feq hm1).2 (by decide) (by decide) k) ?_
            show own_Go p e below _ T81 (mkF m 131 #[.val (.int p1), .val (.int p2), .val (.int p3), .val (.int p4), .val (.int p5), .val (.int x0), .val (.int x2), .val (.int x1), .val (.int (1 : Int32)), .val (.int md), .val (.ref b67), .unset, .unset, .unset, .unset] [])
            refine own_st (fun t k => XS.iload X81.here hx rfl (hb hby at_131) rfl  k) ?_
            show own_Go p e below _ T81 (mkF m 133 #[.val (.int p1), .val (.int p2), .val (.int p3), .val (.int p4), .val (.int p5), .val (.int x0), .val (.int x2), .val (.int x1), .val (.int (1 : Int32)), .val (.int md), .val (.ref b67), .unset, .unset, .unset, .unset] [(.int md)])
            refine own_st (fun t k => XS.iconst X81.here hx rfl (hb hby at_133) k) ?_
            show own_Go p e below _ T81 (mkF m 134 #[.val (.int p1), .val (.int p2), .val (.int p3), .val (.int p4), .val (.int p5), .val (.int x0), .val (.int x2), .val (.int x1), .val (.int (1 : Int32)), .val (.int md), .val (.ref b67), .unset, .unset, .unset, .unset] [(.int (2 : Int32)), (.int md)])
            by_cases hm2 : md = (2 : Int32)
            · refine own_st (fun t k => XS.icmpNo X81.here hx rfl (hb hby at_134) rfl (teq hm2).2 k) ?_
              show own_Go p e below _ T81 (mkF m 137 #[.val (.int p1), .val (.int p2), .val (.int p3), .val (.int p4), .val (.int p5), .val (.int x0), .val (.int x2), .val (.int x1), .val (.int (1 : Int32)), .val (.int md), .val (.ref b67), .unset, .unset, .unset, .unset] [])
              refine own_st (fun t k => XS.iload X81.here hx rfl (hb hby at_137) rfl  k) ?_
              show own_Go p e below _ T81 (mkF m 139 #[.val (.int p1), .val (.int p2), .val (.int p3), .val (.int p4), .val (.int p5), .val (.int x0), .val (.int x2), .val (.int x1), .val (.int (1 : Int32)), .val (.int md), .val (.ref b67), .unset, .unset, .unset, .unset] [(.int x2)])
              refine own_st (fun t k => XS.istore X81.here hx rfl (hb hby at_139) rfl (l' := #[.val (.int p1), .val (.int p2), .val (.int p3), .val (.int p4), .val (.int p5), .val (.int x0), .val (.int x2), .val (.int x1), .val (.int (1 : Int32)), .val (.int md), .val (.ref b67), .val (.int x2), .unset, .unset, .unset]) rfl k) ?_
              show own_Go p e below _ T81 (mkF m 141 #[.val (.int p1), .val (.int p2), .val (.int p3), .val (.int p4), .val (.int p5), .val (.int x0), .val (.int x2), .val (.int x1), .val (.int (1 : Int32)), .val (.int md), .val (.ref b67), .val (.int x2), .unset, .unset, .unset] [])
              refine own_st (fun t k => XS.goto X81.here hx rfl (pc0 := 141) (pc' := 147) rfl (hb hby at_141) (by decide) (by decide) k) ?_
              show own_Go p e below _ T81 (mkF m 147 #[.val (.int p1), .val (.int p2), .val (.int p3), .val (.int p4), .val (.int p5), .val (.int x0), .val (.int x2), .val (.int x1), .val (.int (1 : Int32)), .val (.int md), .val (.ref b67), .val (.int x2), .unset, .unset, .unset] [])
              exact tail _
            · refine own_st (fun t k => XS.icmpYes X81.here hx rfl (pc0 := 134) (pc' := 144) rfl (hb hby at_134) rfl (feq hm2).2 (by decide) (by decide) k) ?_
              show own_Go p e below _ T81 (mkF m 144 #[.val (.int p1), .val (.int p2), .val (.int p3), .val (.int p4), .val (.int p5), .val (.int x0), .val (.int x2), .val (.int x1), .val (.int (1 : Int32)), .val (.int md), .val (.ref b67), .unset, .unset, .unset, .unset] [])
              refine own_st (fun t k => XS.iloadN X81.here hx rfl (hb hby at_144) rfl  k) ?_
              show own_Go p e below _ T81 (mkF m 145 #[.val (.int p1), .val (.int p2), .val (.int p3), .val (.int p4), .val (.int p5), .val (.int x0), .val (.int x2), .val (.int x1), .val (.int (1 : Int32)), .val (.int md), .val (.ref b67), .unset, .unset, .unset, .unset] [(.int p4)])
              refine own_st (fun t k => XS.istore X81.here hx rfl (hb hby at_145) rfl (l' := #[.val (.int p1), .val (.int p2), .val (.int p3), .val (.int p4), .val (.int p5), .val (.int x0), .val (.int x2), .val (.int x1), .val (.int (1 : Int32)), .val (.int md), .val (.ref b67), .val (.int p4), .unset, .unset, .unset]) rfl k) ?_
              show own_Go p e below _ T81 (mkF m 147 #[.val (.int p1), .val (.int p2), .val (.int p3), .val (.int p4), .val (.int p5), .val (.int x0), .val (.int x2), .val (.int x1), .val (.int (1 : Int32)), .val (.int md), .val (.ref b67), .val (.int p4), .unset, .unset, .unset] [])
              exact tail _
      · rw [hq]
        show own_Go p e below _ T17 (mkF m 55 #[.val (.int p1), .val (.int p2), .val (.int p3), .val (.int p4), .val (.int p5), .val (.int x0), .val (.int x2), .val (.int x1), .unset, .unset, .unset, .unset, .unset, .unset, .unset] [(.int (2 : Int32))])
        refine own_st (fun t k => XS.istore X17.here hx rfl (hb hby at_55) rfl (l' := #[.val (.int p1), .val (.int p2), .val (.int p3), .val (.int p4), .val (.int p5), .val (.int x0), .val (.int x2), .val (.int x1), .val (.int (2 : Int32)), .unset, .unset, .unset, .unset, .unset, .unset]) rfl k) ?_
        show own_Go p e below _ T17 (mkF m 57 #[.val (.int p1), .val (.int p2), .val (.int p3), .val (.int p4), .val (.int p5), .val (.int x0), .val (.int x2), .val (.int x1), .val (.int (2 : Int32)), .unset, .unset, .unset, .unset, .unset, .unset] [])
        refine own_st (fun t k => XS.iload X17.here hx rfl (hb hby at_57) rfl  k) ?_
        show own_Go p e below _ T17 (mkF m 59 #[.val (.int p1), .val (.int p2), .val (.int p3), .val (.int p4), .val (.int p5), .val (.int x0), .val (.int x2), .val (.int x1), .val (.int (2 : Int32)), .unset, .unset, .unset, .unset, .unset, .unset] [(.int p5)])
        refine own_st (fun t k => XS.iconst X17.here hx rfl (hb hby at_59) k) ?_
        show own_Go p e below _ T17 (mkF m 60 #[.val (.int p1), .val (.int p2), .val (.int p3), .val (.int p4), .val (.int p5), .val (.int x0), .val (.int x2), .val (.int x1), .val (.int (2 : Int32)), .unset, .unset, .unset, .unset, .unset, .unset] [(.int (2 : Int32)), (.int p5)])
        refine own_st (fun t k => XS.iushr X17.here hx rfl (hb hby at_60) rfl k) ?_
        show own_Go p e below _ T17 (mkF m 61 #[.val (.int p1), .val (.int p2), .val (.int p3), .val (.int p4), .val (.int p5), .val (.int x0), .val (.int x2), .val (.int x1), .val (.int (2 : Int32)), .unset, .unset, .unset, .unset, .unset, .unset] [(.int ((p5.toUInt32 >>> ((2 : Int32) &&& 31).toUInt32).toInt32))])
        refine own_st (fun t k => XS.iconst X17.here hx rfl (hb hby at_61) k) ?_
        show own_Go p e below _ T17 (mkF m 62 #[.val (.int p1), .val (.int p2), .val (.int p3), .val (.int p4), .val (.int p5), .val (.int x0), .val (.int x2), .val (.int x1), .val (.int (2 : Int32)), .unset, .unset, .unset, .unset, .unset, .unset] [(.int (3 : Int32)), (.int ((p5.toUInt32 >>> ((2 : Int32) &&& 31).toUInt32).toInt32))])
        refine own_st (fun t k => XS.iand X17.here hx rfl (hb hby at_62) rfl k) ?_
        show own_Go p e below _ T17 (mkF m 63 #[.val (.int p1), .val (.int p2), .val (.int p3), .val (.int p4), .val (.int p5), .val (.int x0), .val (.int x2), .val (.int x1), .val (.int (2 : Int32)), .unset, .unset, .unset, .unset, .unset, .unset] [(.int (((p5.toUInt32 >>> ((2 : Int32) &&& 31).toUInt32).toInt32) &&& (3 : Int32)))])
        generalize (((p5.toUInt32 >>> ((2 : Int32) &&& 31).toUInt32).toInt32) &&& (3 : Int32)) = md
        show own_Go p e below _ T17 (mkF m 63 #[.val (.int p1), .val (.int p2), .val (.int p3), .val (.int p4), .val (.int p5), .val (.int x0), .val (.int x2), .val (.int x1), .val (.int (2 : Int32)), .unset, .unset, .unset, .unset, .unset, .unset] [(.int md)])
        refine own_st (fun t k => XS.istore X17.here hx rfl (hb hby at_63) rfl (l' := #[.val (.int p1), .val (.int p2), .val (.int p3), .val (.int p4), .val (.int p5), .val (.int x0), .val (.int x2), .val (.int x1), .val (.int (2 : Int32)), .val (.int md), .unset, .unset, .unset, .unset, .unset]) rfl k) ?_
        show own_Go p e below _ T17 (mkF m 65 #[.val (.int p1), .val (.int p2), .val (.int p3), .val (.int p4), .val (.int p5), .val (.int x0), .val (.int x2), .val (.int x1), .val (.int (2 : Int32)), .val (.int md), .unset, .unset, .unset, .unset, .unset] [])
        refine own_st (fun t k => XS.iload X17.here hx rfl (hb hby at_65) rfl  k) ?_
        show own_Go p e below _ T17 (mkF m 67 #[.val (.int p1), .val (.int p2), .val (.int p3), .val (.int p4), .val (.int p5), .val (.int x0), .val (.int x2), .val (.int x1), .val (.int (2 : Int32)), .val (.int md), .unset, .unset, .unset, .unset, .unset] [(.int (2 : Int32))])
        obtain ⟨T67, h67, k67, X67, e67, E67, A67, st67⟩ := newP X17 hx hZ (hw _ (List.mem_of_getElem? (i := 7) rfl)) k4 (g := (mkF m 67 #[.val (.int p1), .val (.int p2), .val (.int p3), .val (.int p4), .val (.int p5), .val (.int x0), .val (.int x2), .val (.int x1), .val (.int (2 : Int32)), .val (.int md), .unset, .unset, .unset, .unset, .unset] [(.int (2 : Int32))])) rfl (hb hby at_67) rfl (by decide) (cap := 2) (by decide) (by decide) (by decide) (by decide)
        obtain ⟨b67, g67⟩ : ∃ z, z = h0.size := ⟨_, rfl⟩
        rw [← g67] at A67 st67
        have V67 : Arv Z h67 b67 k67 .int (2 : Int32) [(.int (0 : Int32)), (.int (0 : Int32))] (.int (0 : Int32)) := (Arv.new A67 (by decide)).pad (pad_rep [] (.int (0 : Int32)) 2)
        refine own_st st67 ?_
        show own_Go p e below _ T67 (mkF m 69 #[.val (.int p1), .val (.int p2), .val (.int p3), .val (.int p4), .val (.int p5), .val (.int x0), .val (.int x2), .val (.int x1), .val (.int (2 : Int32)), .val (.int md), .unset, .unset, .unset, .unset, .unset] [(.ref b67)])
        have Z67 : n0 ≤ h67.size := Nat.le_trans Z0 E67.1
        have gr : n0 ≤ b67 := Nat.le_trans Z0 (Nat.le_of_eq g67.symm)
        refine own_st (fun t k => XS.astore X67.here hx rfl (hb hby at_69) rfl rfl (l' := #[.val (.int p1), .val (.int p2), .val (.int p3), .val (.int p4), .val (.int p5), .val (.int x0), .val (.int x2), .val (.int x1), .val (.int (2 : Int32)), .val (.int md), .val (.ref b67), .unset, .unset, .unset, .unset]) rfl k) ?_
        show own_Go p e below _ T67 (mkF m 71 #[.val (.int p1), .val (.int p2), .val (.int p3), .val (.int p4), .val (.int p5), .val (.int x0), .val (.int x2), .val (.int x1), .val (.int (2 : Int32)), .val (.int md), .val (.ref b67), .unset, .unset, .unset, .unset] [])
        refine own_st (fun t k => XS.iload X67.here hx rfl (hb hby at_71) rfl  k) ?_
        show own_Go p e below _ T67 (mkF m 73 #[.val (.int p1), .val (.int p2), .val (.int p3), .val (.int p4), .val (.int p5), .val (.int x0), .val (.int x2), .val (.int x1), .val (.int (2 : Int32)), .val (.int md), .val (.ref b67), .unset, .unset, .unset, .unset] [(.int (2 : Int32))])
        refine own_st (fun t k => XS.ifNo X67.here hx rfl (hb hby at_73) rfl ((if0 _ _).trans (tlt (by decide : (0 : Int32) < (2 : Int32))).2.2.2) k) ?_
        show own_Go p e below _ T67 (mkF m 76 #[.val (.int p1), .val (.int p2), .val (.int p3), .val (.int p4), .val (.int p5), .val (.int x0), .val (.int x2), .val (.int x1), .val (.int (2 : Int32)), .val (.int md), .val (.ref b67), .unset, .unset, .unset, .unset] [])
        refine own_st (fun t k => XS.aload X67.here hx rfl (hb hby at_76) rfl rfl k) ?_
        show own_Go p e below _ T67 (mkF m 78 #[.val (.int p1), .val (.int p2), .val (.int p3), .val (.int p4), .val (.int p5), .val (.int x0), .val (.int x2), .val (.int x1), .val (.int (2 : Int32)), .val (.int md), .val (.ref b67), .unset, .unset, .unset, .unset] [(.ref b67)])
        refine own_st (fun t k => XS.iconst X67.here hx rfl (hb hby at_78) k) ?_
        show own_Go p e below _ T67 (mkF m 79 #[.val (.int p1), .val (.int p2), .val (.int p3), .val (.int p4), .val (.int p5), .val (.int x0), .val (.int x2), .val (.int x1), .val (.int (2 : Int32)), .val (.int md), .val (.ref b67), .unset, .unset, .unset, .unset] [(.int (0 : Int32)), (.ref b67)])
        refine own_st (fun t k => XS.iload X67.here hx rfl (hb hby at_79) rfl  k) ?_
        show own_Go p e below _ T67 (mkF m 81 #[.val (.int p1), .val (.int p2), .val (.int p3), .val (.int p4), .val (.int p5), .val (.int x0), .val (.int x2), .val (.int x1), .val (.int (2 : Int32)), .val (.int md), .val (.ref b67), .unset, .unset, .unset, .unset] [(.int x0), (.int (0 : Int32)), (.ref b67)])
        obtain ⟨cl81, Ar81, q81, S81, M81, H81, G81⟩ := V67
        have hin81 : ¬ ((0 : Int32) < 0 ∨ cl81.slots.size ≤ ((0 : Int32)).toNatClampNeg) := inb_of S81 ⟨by decide, by decide⟩
        obtain ⟨T81, h81, X81, e81, W81, st81⟩ := stI X67 hx hZ e67 Ar81 (j := (0 : Int32)) hin81 (g := (mkF m 81 #[.val (.int p1), .val (.int p2), .val (.int p3), .val (.int p4), .val (.int p5), .val (.int x0), .val (.int x2), .val (.int x1), .val (.int (2 : Int32)), .val (.int md), .val (.ref b67), .unset, .unset, .unset, .unset] [(.int x0), (.int (0 : Int32)), (.ref b67)])) rfl rfl (hb hby at_81)
        refine own_st st81 ?_
        have V81 := Arv.set Ar81 q81 S81 M81 H81 G81 rfl W81 0 rfl (Nat.le_of_ble_eq_true rfl)
        have N81 := Fr.snoc X81 Q4 gr
        show own_Go p e below _ T81 (mkF m 82 #[.val (.int p1), .val (.int p2), .val (.int p3), .val (.int p4), .val (.int p5), .val (.int x0), .val (.int x2), .val (.int x1), .val (.int (2 : Int32)), .val (.int md), .val (.ref b67), .unset, .unset, .unset, .unset] [])
        have Z81 : n0 ≤ h81.size := Nat.le_trans Z67 (Keep.of_wr W81).1
        refine own_st (fun t k => XS.iload X81.here hx rfl (hb hby at_82) rfl  k) ?_
        show own_Go p e below _ T81 (mkF m 84 #[.val (.int p1), .val (.int p2), .val (.int p3), .val (.int p4), .val (.int p5), .val (.int x0), .val (.int x2), .val (.int x1), .val (.int (2 : Int32)), .val (.int md), .val (.ref b67), .unset, .unset, .unset, .unset] [(.int (2 : Int32))])
        refine own_st (fun t k => XS.iconst X81.here hx rfl (hb hby at_84) k) ?_
        show own_Go p e below _ T81 (mkF m 85 #[.val (.int p1), .val (.int p2), .val (.int p3), .val (.int p4), .val (.int p5), .val (.int x0), .val (.int x2), .val (.int x1), .val (.int (2 : Int32)), .val (.int md), .val (.ref b67), .unset, .unset, .unset, .unset] [(.int (1 : Int32)), (.int (2 : Int32))])
        refine own_st (fun t k => XS.icmpNo X81.here hx rfl (hb hby at_85) rfl (tlt (by decide : (1 : Int32) < (2 : Int32))).2.2.2 k) ?_
        show own_Go p e below _ T81 (mkF m 88 #[.val (.int p1), .val (.int p2), .val (.int p3), .val (.int p4), .val (.int p5), .val (.int x0), .val (.int x2), .val (.int x1), .val (.int (2 : Int32)), .val (.int md), .val (.ref b67), .unset, .unset, .unset, .unset] [])
        refine own_st (fun t k => XS.aload X81.here hx rfl (hb hby at_88) rfl rfl k) ?_
        show own_Go p e below _ T81 (mkF m 90 #[.val (.int p1), .val (.int p2), .val (.int p3), .val (.int p4), .val (.int p5), .val (.int x0), .val (.int x2), .val (.int x1), .val (.int (2 : Int32)), .val (.int md), .val (.ref b67), .unset, .unset, .unset, .unset] [(.ref b67)])
        refine own_st (fun t k => XS.iconst X81.here hx rfl (hb hby at_90) k) ?_
        show own_Go p e below _ T81 (mkF m 91 #[.val (.int p1), .val (.int p2), .val (.int p3), .val (.int p4), .val (.int p5), .val (.int x0), .val (.int x2), .val (.int x1), .val (.int (2 : Int32)), .val (.int md), .val (.ref b67), .unset, .unset, .unset, .unset] [(.int (1 : Int32)), (.ref b67)])
        refine own_st (fun t k => XS.iload X81.here hx rfl (hb hby at_91) rfl  k) ?_
        show own_Go p e below _ T81 (mkF m 93 #[.val (.int p1), .val (.int p2), .val (.int p3), .val (.int p4), .val (.int p5), .val (.int x0), .val (.int x2), .val (.int x1), .val (.int (2 : Int32)), .val (.int md), .val (.ref b67), .unset, .unset, .unset, .unset] [(.int x1), (.int (1 : Int32)), (.ref b67)])
        obtain ⟨cl93, Ar93, q93, S93, M93, H93, G93⟩ := V81
        have hin93 : ¬ ((1 : Int32) < 0 ∨ cl93.slots.size ≤ ((1 : Int32)).toNatClampNeg) := inb_of S93 ⟨by decide, by decide⟩
        obtain ⟨T93, h93, X93, e93, W93, st93⟩ := stI X81 hx hZ e81 Ar93 (j := (1 : Int32)) hin93 (g := (mkF m 93 #[.val (.int p1), .val (.int p2), .val (.int p3), .val (.int p4), .val (.int p5), .val (.int x0), .val (.int x2), .val (.int x1), .val (.int (2 : Int32)), .val (.int md), .val (.ref b67), .unset, .unset, .unset, .unset] [(.int x1), (.int (1 : Int32)), (.ref b67)])) rfl rfl (hb hby at_93)
        refine own_st st93 ?_
        have V93 := Arv.set Ar93 q93 S93 M93 H93 G93 rfl W93 1 rfl (Nat.le_of_ble_eq_true rfl)
        have N93 := Fr.snoc X93 N81 gr
        show own_Go p e below _ T93 (mkF m 94 #[.val (.int p1), .val (.int p2), .val (.int p3), .val (.int p4), .val (.int p5), .val (.int x0), .val (.int x2), .val (.int x1), .val (.int (2 : Int32)), .val (.int md), .val (.ref b67), .unset, .unset, .unset, .unset] [])
        have Z93 : n0 ≤ h93.size := Nat.le_trans Z81 (Keep.of_wr W93).1
        refine own_st (fun t k => XS.iload X93.here hx rfl (hb hby at_94) rfl  k) ?_
        show own_Go p e below _ T93 (mkF m 96 #[.val (.int p1), .val (.int p2), .val (.int p3), .val (.int p4), .val (.int p5), .val (.int x0), .val (.int x2), .val (.int x1), .val (.int (2 : Int32)), .val (.int md), .val (.ref b67), .unset, .unset, .unset, .unset] [(.int (2 : Int32))])
        refine own_st (fun t k => XS.iconst X93.here hx rfl (hb hby at_96) k) ?_
        show own_Go p e below _ T93 (mkF m 97 #[.val (.int p1), .val (.int p2), .val (.int p3), .val (.int p4), .val (.int p5), .val (.int x0), .val (.int x2), .val (.int x1), .val (.int (2 : Int32)), .val (.int md), .val (.ref b67), .unset, .unset, .unset, .unset] [(.int (2 : Int32)), (.int (2 : Int32))])
        refine own_st (fun t k => XS.icmpYes X93.here hx rfl (pc0 := 97) (pc' := 106) rfl (hb hby at_97) rfl (flt (by decide : ¬ (2 : Int32) < (2 : Int32))).2.2.2 (by decide) (by decide) k) ?_
        show own_Go p e below _ T93 (mkF m 106 #[.val (.int p1), .val (.int p2), .val (.int p3), .val (.int p4), .val (.int p5), .val (.int x0), .val (.int x2), .val (.int x1), .val (.int (2 : Int32)), .val (.int md), .val (.ref b67), .unset, .unset, .unset, .unset] [])
        refine own_st (fun t k => XS.iload X93.here hx rfl (hb hby at_106) rfl  k) ?_
        show own_Go p e below _ T93 (mkF m 108 #[.val (.int p1), .val (.int p2), .val (.int p3), .val (.int p4), .val (.int p5), .val (.int x0), .val (.int x2), .val (.int x1), .val (.int (2 : Int32)), .val (.int md), .val (.ref b67), .unset, .unset, .unset, .unset] [(.int md)])
        have tail : ∀ u : Int32, own_Go p e below (own_P s (fun v h L => v = some (.int 1) ∧ Fr n0 L) room_1.cells room_1.slots) T93 (mkF m 147 #[.val (.int p1), .val (.int p2), .val (.int p3), .val (.int p4), .val (.int p5), .val (.int x0), .val (.int x2), .val (.int x1), .val (.int (2 : Int32)), .val (.int md), .val (.ref b67), .val (.int u), .unset, .unset, .unset] []) := by
          intro u
          show own_Go p e below _ T93 (mkF m 147 #[.val (.int p1), .val (.int p2), .val (.int p3), .val (.int p4), .val (.int p5), .val (.int x0), .val (.int x2), .val (.int x1), .val (.int (2 : Int32)), .val (.int md), .val (.ref b67), .val (.int u), .unset, .unset, .unset] [])
          obtain ⟨T147, h147, X147, e147, E147, A147, D147, -, st147⟩ := newO X93 hx hZ hown (hw _ (List.mem_of_getElem? (i := 8) rfl)) (hw _ (List.mem_of_getElem? (i := 9) rfl)) (hw _ (List.mem_of_getElem? (i := 10) rfl)) e93 (g := (mkF m 147 #[.val (.int p1), .val (.int p2), .val (.int p3), .val (.int p4), .val (.int p5), .val (.int x0), .val (.int x2), .val (.int x1), .val (.int (2 : Int32)), .val (.int md), .val (.ref b67), .val (.int u), .unset, .unset, .unset] [])) rfl (hb hby at_147) (by decide) (by decide)
          obtain ⟨b147, g147⟩ : ∃ z, z = h93.size := ⟨_, rfl⟩
          rw [← g147] at A147 D147 st147
          have F147_resources : Fld Z h147 b147 "com/example/rank3/rank3/text/Postings" "resources" "[I" .null := D147 (Or.inr (hw _ (List.mem_of_getElem? (i := 19) rfl))) (ty := (.array .int)) (by decide)
          have F147_titleCounts : Fld Z h147 b147 "com/example/rank3/rank3/text/Postings" "titleCounts" "[I" .null := D147 (Or.inr (hw _ (List.mem_of_getElem? (i := 21) rfl))) (ty := (.array .int)) (by decide)
          have F147_contentCounts : Fld Z h147 b147 "com/example/rank3/rank3/text/Postings" "contentCounts" "[I" .null := D147 (Or.inr (hw _ (List.mem_of_getElem? (i := 23) rfl))) (ty := (.array .int)) (by decide)
          have F147_inStructure : Fld Z h147 b147 "com/example/rank3/rank3/text/Postings" "inStructure" "[Z" .null := D147 (Or.inr (hw _ (List.mem_of_getElem? (i := 25) rfl))) (ty := (.array .boolean)) (by decide)
          have F147_collectionCount : Fld Z h147 b147 "com/example/rank3/rank3/text/Postings" "collectionCount" "J" (.long (0 : Int64)) := D147 (Or.inr (hw _ (List.mem_of_getElem? (i := 27) rfl))) (ty := .long) (by decide)
          refine own_st st147 ?_
          show own_Go p e below _ T147 (mkF m 150 #[.val (.int p1), .val (.int p2), .val (.int p3), .val (.int p4), .val (.int p5), .val (.int x0), .val (.int x2), .val (.int x1), .val (.int (2 : Int32)), .val (.int md), .val (.ref b67), .val (.int u), .unset, .unset, .unset] [(.ref b147)])
          have Z147 : n0 ≤ h147.size := Nat.le_trans Z93 E147.1
          have go : n0 ≤ b147 := Nat.le_trans Z93 (Nat.le_of_eq g147.symm)
          have nr : b67 ≠ b147 := Nat.ne_of_lt (Nat.lt_of_lt_of_le V93.lt (Nat.le_of_eq g147.symm))
          refine own_st (fun t k => XS.dup X147.here hx rfl (hb hby at_150) rfl rfl k) ?_
          show own_Go p e below _ T147 (mkF m 151 #[.val (.int p1), .val (.int p2), .val (.int p3), .val (.int p4), .val (.int p5), .val (.int x0), .val (.int x2), .val (.int x1), .val (.int (2 : Int32)), .val (.int md), .val (.ref b67), .val (.int u), .unset, .unset, .unset] [(.ref b147), (.ref b147)])
          refine own_st (fun t k => XS.aload X147.here hx rfl (hb hby at_151) rfl rfl k) ?_
          show own_Go p e below _ T147 (mkF m 153 #[.val (.int p1), .val (.int p2), .val (.int p3), .val (.int p4), .val (.int p5), .val (.int x0), .val (.int x2), .val (.int x1), .val (.int (2 : Int32)), .val (.int md), .val (.ref b67), .val (.int u), .unset, .unset, .unset] [(.ref b67), (.ref b147), (.ref b147)])
          refine own_st (fun t k => XS.iload X147.here hx rfl (hb hby at_153) rfl  k) ?_
          show own_Go p e below _ T147 (mkF m 155 #[.val (.int p1), .val (.int p2), .val (.int p3), .val (.int p4), .val (.int p5), .val (.int x0), .val (.int x2), .val (.int x1), .val (.int (2 : Int32)), .val (.int md), .val (.ref b67), .val (.int u), .unset, .unset, .unset] [(.int (2 : Int32)), (.ref b67), (.ref b147), (.ref b147)])
          obtain ⟨T155, h155, k155, X155, e155, E155, A155, st155⟩ := newP X147 hx hZ (hw _ (List.mem_of_getElem? (i := 7) rfl)) e147 (g := (mkF m 155 #[.val (.int p1), .val (.int p2), .val (.int p3), .val (.int p4), .val (.int p5), .val (.int x0), .val (.int x2), .val (.int x1), .val (.int (2 : Int32)), .val (.int md), .val (.ref b67), .val (.int u), .unset, .unset, .unset] [(.int (2 : Int32)), (.ref b67), (.ref b147), (.ref b147)])) rfl (hb hby at_155) rfl (by decide) (cap := 2) (by decide) (by decide) (by decide) (by decide)
          obtain ⟨b155, g155⟩ : ∃ z, z = h147.size := ⟨_, rfl⟩
          rw [← g155] at A155 st155
          have V155 : Arv Z h155 b155 k155 .int (2 : Int32) [(.int (0 : Int32)), (.int (0 : Int32))] (.int (0 : Int32)) := (Arv.new A155 (by decide)).pad (pad_rep [] (.int (0 : Int32)) 2)
          refine own_st st155 ?_
          show own_Go p e below _ T155 (mkF m 157 #[.val (.int p1), .val (.int p2), .val (.int p3), .val (.int p4), .val (.int p5), .val (.int x0), .val (.int x2), .val (.int x1), .val (.int (2 : Int32)), .val (.int md), .val (.ref b67), .val (.int u), .unset, .unset, .unset] [(.ref b155), (.ref b67), (.ref b147), (.ref b147)])
          have Z155 : n0 ≤ h155.size := Nat.le_trans Z147 E155.1
          have ne155 : b155 ≠ b147 := Nat.ne_of_gt (Nat.lt_of_lt_of_le A147.lt (Nat.le_of_eq g155.symm))
          refine own_st (fun t k => XS.iload X155.here hx rfl (hb hby at_157) rfl  k) ?_
          show own_Go p e below _ T155 (mkF m 159 #[.val (.int p1), .val (.int p2), .val (.int p3), .val (.int p4), .val (.int p5), .val (.int x0), .val (.int x2), .val (.int x1), .val (.int (2 : Int32)), .val (.int md), .val (.ref b67), .val (.int u), .unset, .unset, .unset] [(.int (2 : Int32)), (.ref b155), (.ref b67), (.ref b147), (.ref b147)])
          obtain ⟨T159, h159, k159, X159, e159, E159, A159, st159⟩ := newP X155 hx hZ (hw _ (List.mem_of_getElem? (i := 7) rfl)) e155 (g := (mkF m 159 #[.val (.int p1), .val (.int p2), .val (.int p3), .val (.int p4), .val (.int p5), .val (.int x0), .val (.int x2), .val (.int x1), .val (.int (2 : Int32)), .val (.int md), .val (.ref b67), .val (.int u), .unset, .unset, .unset] [(.int (2 : Int32)), (.ref b155), (.ref b67), (.ref b147), (.ref b147)])) rfl (hb hby at_159) rfl (by decide) (cap := 2) (by decide) (by decide) (by decide) (by decide)
          obtain ⟨b159, g159⟩ : ∃ z, z = h155.size := ⟨_, rfl⟩
          rw [← g159] at A159 st159
          have V159 : Arv Z h159 b159 k159 .int (2 : Int32) [(.int (0 : Int32)), (.int (0 : Int32))] (.int (0 : Int32)) := (Arv.new A159 (by decide)).pad (pad_rep [] (.int (0 : Int32)) 2)
          refine own_st st159 ?_
          show own_Go p e below _ T159 (mkF m 161 #[.val (.int p1), .val (.int p2), .val (.int p3), .val (.int p4), .val (.int p5), .val (.int x0), .val (.int x2), .val (.int x1), .val (.int (2 : Int32)), .val (.int md), .val (.ref b67), .val (.int u), .unset, .unset, .unset] [(.ref b159), (.ref b155), (.ref b67), (.ref b147), (.ref b147)])
          have Z159 : n0 ≤ h159.size := Nat.le_trans Z155 E159.1
          have ne159 : b159 ≠ b147 := Nat.ne_of_gt (Nat.lt_of_lt_of_le (A147.ext E155).lt (Nat.le_of_eq g159.symm))
          refine own_st (fun t k => XS.iload X159.here hx rfl (hb hby at_161) rfl  k) ?_
          show own_Go p e below _ T159 (mkF m 163 #[.val (.int p1), .val (.int p2), .val (.int p3), .val (.int p4), .val (.int p5), .val (.int x0), .val (.int x2), .val (.int x1), .val (.int (2 : Int32)), .val (.int md), .val (.ref b67), .val (.int u), .unset, .unset, .unset] [(.int (2 : Int32)), (.ref b159), (.ref b155), (.ref b67), (.ref b147), (.ref b147)])
          obtain ⟨T163, h163, k163, X163, e163, E163, A163, st163⟩ := newP X159 hx hZ (hw _ (List.mem_of_getElem? (i := 11) rfl)) e159 (g := (mkF m 163 #[.val (.int p1), .val (.int p2), .val (.int p3), .val (.int p4), .val (.int p5), .val (.int x0), .val (.int x2), .val (.int x1), .val (.int (2 : Int32)), .val (.int md), .val (.ref b67), .val (.int u), .unset, .unset, .unset] [(.int (2 : Int32)), (.ref b159), (.ref b155), (.ref b67), (.ref b147), (.ref b147)])) rfl (hb hby at_163) rfl (by decide) (cap := 2) (by decide) (by decide) (by decide) (by decide)
          obtain ⟨b163, g163⟩ : ∃ z, z = h159.size := ⟨_, rfl⟩
          rw [← g163] at A163 st163
          have V163 : Arv Z h163 b163 k163 .boolean (2 : Int32) [(.int (0 : Int32)), (.int (0 : Int32))] (.int (0 : Int32)) := (Arv.new A163 (by decide)).pad (pad_rep [] (.int (0 : Int32)) 2)
          refine own_st st163 ?_
          show own_Go p e below _ T163 (mkF m 165 #[.val (.int p1), .val (.int p2), .val (.int p3), .val (.int p4), .val (.int p5), .val (.int x0), .val (.int x2), .val (.int x1), .val (.int (2 : Int32)), .val (.int md), .val (.ref b67), .val (.int u), .unset, .unset, .unset] [(.ref b163), (.ref b159), (.ref b155), (.ref b67), (.ref b147), (.ref b147)])
          have Z163 : n0 ≤ h163.size := Nat.le_trans Z159 E163.1
          have ne163 : b163 ≠ b147 := Nat.ne_of_gt (Nat.lt_of_lt_of_le ((A147.ext E155).ext E159).lt (Nat.le_of_eq g163.symm))
          refine own_callI X163 hx hZ (y := (⟨"com/example/rank3/rank3/text/Postings", "<init>", "([I[I[I[Z)V"⟩ : MethodName)) (W := 1) (kc := 0) (ks := 0) rfl hown (hw _ (List.mem_of_getElem? (i := 12) rfl)) (hw _ (List.mem_of_getElem? (i := 13) rfl)) (hw _ (List.mem_of_getElem? (i := 14) rfl)) (own_back (W := 1) (rm_in2 l Z a0 hw [] b147 b67 b155 b159 b163 k159 h163 n0 Z163 (((A147.ext E155).ext E159).ext E163) (((F147_resources.ext E155).ext E159).ext E163) (((F147_titleCounts.ext E155).ext E159).ext E163) (((F147_contentCounts.ext E155).ext E159).ext E163) (((F147_inStructure.ext E155).ext E159).ext E163) (((F147_collectionCount.ext E155).ext E159).ext E163) go (V159.ext E163) ne159) hZ (hw _ (List.mem_of_getElem? (i := 14) rfl)) (hw _ (List.mem_of_getElem? (i := 10) rfl)) (by decide) (by decide)) (by decide) (g := (mkF m 165 #[.val (.int p1), .val (.int p2), .val (.int p3), .val (.int p4), .val (.int p5), .val (.int x0), .val (.int x2), .val (.int x1), .val (.int (2 : Int32)), .val (.int md), .val (.ref b67), .val (.int u), .unset, .unset, .unset] [(.ref b163), (.ref b159), (.ref b155), (.ref b67), (.ref b147), (.ref b147)])) rfl (by rw [hml]; rfl) (a := b147) (argsL := [(.ref b67), (.ref b155), (.ref b159), (.ref b163)]) (rest := [(.ref b147)]) (lenOf pd_3 rfl) rfl (by show 2 * 0 + _ ≤ _; exact Nat.le_of_eq rfl) (hb hby at_165) rfl e163 (by decide) (by decide) (fun v165 T165 L165 X165 hQ165 => ?_)
          obtain ⟨rfl, M165, K165, E165, F165⟩ := hQ165
          have N165 := Fr.app N93 M165
          have Z165 : n0 ≤ T165.heap.size := Nat.le_trans Z163 K165.1
          have V165 := ((((V93.ext E147).ext E155).ext E159).ext E163).keep K165 (ninS nr nin0)
          show own_Go p e below _ T165 (mkF m 168 #[.val (.int p1), .val (.int p2), .val (.int p3), .val (.int p4), .val (.int p5), .val (.int x0), .val (.int x2), .val (.int x1), .val (.int (2 : Int32)), .val (.int md), .val (.ref b67), .val (.int u), .unset, .unset, .unset] [(.ref b147)])
          refine own_st (fun t k => XS.astore X165.here hx rfl (hb hby at_168) rfl rfl (l' := #[.val (.int p1), .val (.int p2), .val (.int p3), .val (.int p4), .val (.int p5), .val (.int x0), .val (.int x2), .val (.int x1), .val (.int (2 : Int32)), .val (.int md), .val (.ref b67), .val (.int u), .val (.ref b147), .unset, .unset]) rfl k) ?_
          show own_Go p e below _ T165 (mkF m 170 #[.val (.int p1), .val (.int p2), .val (.int p3), .val (.int p4), .val (.int p5), .val (.int x0), .val (.int x2), .val (.int x1), .val (.int (2 : Int32)), .val (.int md), .val (.ref b67), .val (.int u), .val (.ref b147), .unset, .unset] [])
          refine own_st (fun t k => XS.aload X165.here hx rfl (hb hby at_170) rfl rfl k) ?_
          show own_Go p e below _ T165 (mkF m 172 #[.val (.int p1), .val (.int p2), .val (.int p3), .val (.int p4), .val (.int p5), .val (.int x0), .val (.int x2), .val (.int x1), .val (.int (2 : Int32)), .val (.int md), .val (.ref b67), .val (.int u), .val (.ref b147), .unset, .unset] [(.ref b147)])
          refine own_st (fun t k => XS.iload X165.here hx rfl (hb hby at_172) rfl  k) ?_
          show own_Go p e below _ T165 (mkF m 174 #[.val (.int p1), .val (.int p2), .val (.int p3), .val (.int p4), .val (.int p5), .val (.int x0), .val (.int x2), .val (.int x1), .val (.int (2 : Int32)), .val (.int md), .val (.ref b67), .val (.int u), .val (.ref b147), .unset, .unset] [(.int u), (.ref b147)])
          refine own_callV X165 hx hZ (y := (⟨"com/example/rank3/rank3/text/Postings", "indexOf", "(I)I"⟩ : MethodName)) (W := 0) (kc := 0) (ks := 0) hown (hw _ (List.mem_of_getElem? (i := 28) rfl)) (hw _ (List.mem_of_getElem? (i := 29) rfl)) (hw _ (List.mem_of_getElem? (i := 31) rfl)) (hw _ (List.mem_of_getElem? (i := 30) rfl)) (own_back (W := 0) (rm_ix2 l Z a0 hw [] b147 b67 k67 x0 x1 u T165.heap n0 Z165 F165 V165 h01) hZ (hw _ (List.mem_of_getElem? (i := 32) rfl)) (hw _ (List.mem_of_getElem? (i := 10) rfl)) (by decide) (by decide)) (by decide) (b := b147) E165 (g := (mkF m 174 #[.val (.int p1), .val (.int p2), .val (.int p3), .val (.int p4), .val (.int p5), .val (.int x0), .val (.int x2), .val (.int x1), .val (.int (2 : Int32)), .val (.int md), .val (.ref b67), .val (.int u), .val (.ref b147), .unset, .unset] [(.int u), (.ref b147)])) rfl (by rw [hml]; rfl) (argsL := [(.int u)]) (rest := []) (lenOf pd_4 rfl) rfl (by show 2 * 0 + _ ≤ _; exact Nat.le_of_eq rfl) (hb hby at_174) rfl rfl (by decide) (by decide) (fun v174 T174 L174 X174 hQ174 => ?_)
          obtain ⟨r, rfl, hr, M174, e174⟩ := hQ174
          have N174 := Fr.app N165 M174
          show own_Go p e below _ T174 (mkF m 177 #[.val (.int p1), .val (.int p2), .val (.int p3), .val (.int p4), .val (.int p5), .val (.int x0), .val (.int x2), .val (.int x1), .val (.int (2 : Int32)), .val (.int md), .val (.ref b67), .val (.int u), .val (.ref b147), .unset, .unset] [(.int r)])
          refine own_st (fun t k => XS.istore X174.here hx rfl (hb hby at_177) rfl (l' := #[.val (.int p1), .val (.int p2), .val (.int p3), .val (.int p4), .val (.int p5), .val (.int x0), .val (.int x2), .val (.int x1), .val (.int (2 : Int32)), .val (.int md), .val (.ref b67), .val (.int u), .val (.ref b147), .val (.int r), .unset]) rfl k) ?_
          show own_Go p e below _ T174 (mkF m 179 #[.val (.int p1), .val (.int p2), .val (.int p3), .val (.int p4), .val (.int p5), .val (.int x0), .val (.int x2), .val (.int x1), .val (.int (2 : Int32)), .val (.int md), .val (.ref b67), .val (.int u), .val (.ref b147), .val (.int r), .unset] [])
          refine own_st (fun t k => XS.iconst X174.here hx rfl (hb hby at_179) k) ?_
          show own_Go p e below _ T174 (mkF m 180 #[.val (.int p1), .val (.int p2), .val (.int p3), .val (.int p4), .val (.int p5), .val (.int x0), .val (.int x2), .val (.int x1), .val (.int (2 : Int32)), .val (.int md), .val (.ref b67), .val (.int u), .val (.ref b147), .val (.int r), .unset] [(.int (-1 : Int32))])
          refine own_st (fun t k => XS.istore X174.here hx rfl (hb hby at_180) rfl (l' := #[.val (.int p1), .val (.int p2), .val (.int p3), .val (.int p4), .val (.int p5), .val (.int x0), .val (.int x2), .val (.int x1), .val (.int (2 : Int32)), .val (.int md), .val (.ref b67), .val (.int u), .val (.ref b147), .val (.int r), .val (.int (-1 : Int32))]) rfl k) ?_
          show own_Go p e below _ T174 (mkF m 182 #[.val (.int p1), .val (.int p2), .val (.int p3), .val (.int p4), .val (.int p5), .val (.int x0), .val (.int x2), .val (.int x1), .val (.int (2 : Int32)), .val (.int md), .val (.ref b67), .val (.int u), .val (.ref b147), .val (.int r), .val (.int (-1 : Int32))] [])
          refine own_st (fun t k => XS.iload X174.here hx rfl (hb hby at_182) rfl  k) ?_
          show own_Go p e below _ T174 (mkF m 184 #[.val (.int p1), .val (.int p2), .val (.int p3), .val (.int p4), .val (.int p5), .val (.int x0), .val (.int x2), .val (.int x1), .val (.int (2 : Int32)), .val (.int md), .val (.ref b67), .val (.int u), .val (.ref b147), .val (.int r), .val (.int (-1 : Int32))] [(.int (2 : Int32))])
          rcases hr with ⟨hr, hu⟩ | ⟨hr, hu⟩ | ⟨hr, hu0, hu1⟩
          · subst hr
            show own_Go p e below _ T174 (mkF m 184 #[.val (.int p1), .val (.int p2), .val (.int p3), .val (.int p4), .val (.int p5), .val (.int x0), .val (.int x2), .val (.int x1), .val (.int (2 : Int32)), .val (.int md), .val (.ref b67), .val (.int u), .val (.ref b147), .val (.int (0 : Int32)), .val (.int (-1 : Int32))] [(.int (2 : Int32))])
            refine own_st (fun t k => XS.ifNo X174.here hx rfl (hb hby at_184) rfl ((if0 _ _).trans (tlt (by decide : (0 : Int32) < (2 : Int32))).2.2.2) k) ?_
            show own_Go p e below _ T174 (mkF m 187 #[.val (.int p1), .val (.int p2), .val (.int p3), .val (.int p4), .val (.int p5), .val (.int x0), .val (.int x2), .val (.int x1), .val (.int (2 : Int32)), .val (.int md), .val (.ref b67), .val (.int u), .val (.ref b147), .val (.int (0 : Int32)), .val (.int (-1 : Int32))] [])
            refine own_st (fun t k => XS.iload X174.here hx rfl (hb hby at_187) rfl  k) ?_
            show own_Go p e below _ T174 (mkF m 189 #[.val (.int p1), .val (.int p2), .val (.int p3), .val (.int p4), .val (.int p5), .val (.int x0), .val (.int x2), .val (.int x1), .val (.int (2 : Int32)), .val (.int md), .val (.ref b67), .val (.int u), .val (.ref b147), .val (.int (0 : Int32)), .val (.int (-1 : Int32))] [(.int u)])
            refine own_st (fun t k => XS.iload X174.here hx rfl (hb hby at_189) rfl  k) ?_
            show own_Go p e below _ T174 (mkF m 191 #[.val (.int p1), .val (.int p2), .val (.int p3), .val (.int p4), .val (.int p5), .val (.int x0), .val (.int x2), .val (.int x1), .val (.int (2 : Int32)), .val (.int md), .val (.ref b67), .val (.int u), .val (.ref b147), .val (.int (0 : Int32)), .val (.int (-1 : Int32))] [(.int x0), (.int u)])
            refine own_st (fun t k => XS.icmpNo X174.here hx rfl (hb hby at_191) rfl (teq hu).2 k) ?_
            show own_Go p e below _ T174 (mkF m 194 #[.val (.int p1), .val (.int p2), .val (.int p3), .val (.int p4), .val (.int p5), .val (.int x0), .val (.int x2), .val (.int x1), .val (.int (2 : Int32)), .val (.int md), .val (.ref b67), .val (.int u), .val (.ref b147), .val (.int (0 : Int32)), .val (.int (-1 : Int32))] [])
            refine own_st (fun t k => XS.iconst X174.here hx rfl (hb hby at_194) k) ?_
            show own_Go p e below _ T174 (mkF m 195 #[.val (.int p1), .val (.int p2), .val (.int p3), .val (.int p4), .val (.int p5), .val (.int x0), .val (.int x2), .val (.int x1), .val (.int (2 : Int32)), .val (.int md), .val (.ref b67), .val (.int u), .val (.ref b147), .val (.int (0 : Int32)), .val (.int (-1 : Int32))] [(.int (0 : Int32))])
            refine own_st (fun t k => XS.istore X174.here hx rfl (hb hby at_195) rfl (l' := #[.val (.int p1), .val (.int p2), .val (.int p3), .val (.int p4), .val (.int p5), .val (.int x0), .val (.int x2), .val (.int x1), .val (.int (2 : Int32)), .val (.int md), .val (.ref b67), .val (.int u), .val (.ref b147), .val (.int (0 : Int32)), .val (.int (0 : Int32))]) rfl k) ?_
            show own_Go p e below _ T174 (mkF m 197 #[.val (.int p1), .val (.int p2), .val (.int p3), .val (.int p4), .val (.int p5), .val (.int x0), .val (.int x2), .val (.int x1), .val (.int (2 : Int32)), .val (.int md), .val (.ref b67), .val (.int u), .val (.ref b147), .val (.int (0 : Int32)), .val (.int (0 : Int32))] [])
            refine own_st (fun t k => XS.iload X174.here hx rfl (hb hby at_197) rfl  k) ?_
            show own_Go p e below _ T174 (mkF m 199 #[.val (.int p1), .val (.int p2), .val (.int p3), .val (.int p4), .val (.int p5), .val (.int x0), .val (.int x2), .val (.int x1), .val (.int (2 : Int32)), .val (.int md), .val (.ref b67), .val (.int u), .val (.ref b147), .val (.int (0 : Int32)), .val (.int (0 : Int32))] [(.int (2 : Int32))])
            refine own_st (fun t k => XS.iconst X174.here hx rfl (hb hby at_199) k) ?_
            show own_Go p e below _ T174 (mkF m 200 #[.val (.int p1), .val (.int p2), .val (.int p3), .val (.int p4), .val (.int p5), .val (.int x0), .val (.int x2), .val (.int x1), .val (.int (2 : Int32)), .val (.int md), .val (.ref b67), .val (.int u), .val (.ref b147), .val (.int (0 : Int32)), .val (.int (0 : Int32))] [(.int (1 : Int32)), (.int (2 : Int32))])
            refine own_st (fun t k => XS.icmpNo X174.here hx rfl (hb hby at_200) rfl (tlt (by decide : (1 : Int32) < (2 : Int32))).2.2.2 k) ?_
            show own_Go p e below _ T174 (mkF m 203 #[.val (.int p1), .val (.int p2), .val (.int p3), .val (.int p4), .val (.int p5), .val (.int x0), .val (.int x2), .val (.int x1), .val (.int (2 : Int32)), .val (.int md), .val (.ref b67), .val (.int u), .val (.ref b147), .val (.int (0 : Int32)), .val (.int (0 : Int32))] [])
            refine own_st (fun t k => XS.iload X174.here hx rfl (hb hby at_203) rfl  k) ?_
            show own_Go p e below _ T174 (mkF m 205 #[.val (.int p1), .val (.int p2), .val (.int p3), .val (.int p4), .val (.int p5), .val (.int x0), .val (.int x2), .val (.int x1), .val (.int (2 : Int32)), .val (.int md), .val (.ref b67), .val (.int u), .val (.ref b147), .val (.int (0 : Int32)), .val (.int (0 : Int32))] [(.int u)])
            refine own_st (fun t k => XS.iload X174.here hx rfl (hb hby at_205) rfl  k) ?_
            show own_Go p e below _ T174 (mkF m 207 #[.val (.int p1), .val (.int p2), .val (.int p3), .val (.int p4), .val (.int p5), .val (.int x0), .val (.int x2), .val (.int x1), .val (.int (2 : Int32)), .val (.int md), .val (.ref b67), .val (.int u), .val (.ref b147), .val (.int (0 : Int32)), .val (.int (0 : Int32))] [(.int x1), (.int u)])
            refine own_st (fun t k => XS.icmpYes X174.here hx rfl (pc0 := 207) (pc' := 213) rfl (hb hby at_207) rfl (feq (by simp only [Int32.lt_iff_toInt_lt, ← Int32.toInt_inj] at hu h01 h12 ⊢; omega)).2 (by decide) (by decide) k) ?_
            show own_Go p e below _ T174 (mkF m 213 #[.val (.int p1), .val (.int p2), .val (.int p3), .val (.int p4), .val (.int p5), .val (.int x0), .val (.int x2), .val (.int x1), .val (.int (2 : Int32)), .val (.int md), .val (.ref b67), .val (.int u), .val (.ref b147), .val (.int (0 : Int32)), .val (.int (0 : Int32))] [])
            refine own_st (fun t k => XS.iload X174.here hx rfl (hb hby at_213) rfl  k) ?_
            show own_Go p e below _ T174 (mkF m 215 #[.val (.int p1), .val (.int p2), .val (.int p3), .val (.int p4), .val (.int p5), .val (.int x0), .val (.int x2), .val (.int x1), .val (.int (2 : Int32)), .val (.int md), .val (.ref b67), .val (.int u), .val (.ref b147), .val (.int (0 : Int32)), .val (.int (0 : Int32))] [(.int (2 : Int32))])
            refine own_st (fun t k => XS.iconst X174.here hx rfl (hb hby at_215) k) ?_
            show own_Go p e below _ T174 (mkF m 216 #[.val (.int p1), .val (.int p2), .val (.int p3), .val (.int p4), .val (.int p5), .val (.int x0), .val (.int x2), .val (.int x1), .val (.int (2 : Int32)), .val (.int md), .val (.ref b67), .val (.int u), .val (.ref b147), .val (.int (0 : Int32)), .val (.int (0 : Int32))] [(.int (2 : Int32)), (.int (2 : Int32))])
            refine own_st (fun t k => XS.icmpYes X174.here hx rfl (pc0 := 216) (pc' := 229) rfl (hb hby at_216) rfl (flt (by decide : ¬ (2 : Int32) < (2 : Int32))).2.2.2 (by decide) (by decide) k) ?_
            show own_Go p e below _ T174 (mkF m 229 #[.val (.int p1), .val (.int p2), .val (.int p3), .val (.int p4), .val (.int p5), .val (.int x0), .val (.int x2), .val (.int x1), .val (.int (2 : Int32)), .val (.int md), .val (.ref b67), .val (.int u), .val (.ref b147), .val (.int (0 : Int32)), .val (.int (0 : Int32))] [])
            refine own_st (fun t k => XS.iload X174.here hx rfl (hb hby at_229) rfl  k) ?_
            show own_Go p e below _ T174 (mkF m 231 #[.val (.int p1), .val (.int p2), .val (.int p3), .val (.int p4), .val (.int p5), .val (.int x0), .val (.int x2), .val (.int x1), .val (.int (2 : Int32)), .val (.int md), .val (.ref b67), .val (.int u), .val (.ref b147), .val (.int (0 : Int32)), .val (.int (0 : Int32))] [(.int (0 : Int32))])
            refine own_st (fun t k => XS.iload X174.here hx rfl (hb hby at_231) rfl  k) ?_
            show own_Go p e below _ T174 (mkF m 233 #[.val (.int p1), .val (.int p2), .val (.int p3), .val (.int p4), .val (.int p5), .val (.int x0), .val (.int x2), .val (.int x1), .val (.int (2 : Int32)), .val (.int md), .val (.ref b67), .val (.int u), .val (.ref b147), .val (.int (0 : Int32)), .val (.int (0 : Int32))] [(.int (0 : Int32)), (.int (0 : Int32))])
            refine own_st (fun t k => XS.icmpNo X174.here hx rfl (hb hby at_233) rfl (teq (rfl : (0 : Int32) = (0 : Int32))).2 k) ?_
            show own_Go p e below _ T174 (mkF m 236 #[.val (.int p1), .val (.int p2), .val (.int p3), .val (.int p4), .val (.int p5), .val (.int x0), .val (.int x2), .val (.int x1), .val (.int (2 : Int32)), .val (.int md), .val (.ref b67), .val (.int u), .val (.ref b147), .val (.int (0 : Int32)), .val (.int (0 : Int32))] [])
            refine own_st (fun t k => XS.iconst X174.here hx rfl (hb hby at_236) k) ?_
            show own_Go p e below _ T174 (mkF m 237 #[.val (.int p1), .val (.int p2), .val (.int p3), .val (.int p4), .val (.int p5), .val (.int x0), .val (.int x2), .val (.int x1), .val (.int (2 : Int32)), .val (.int md), .val (.ref b67), .val (.int u), .val (.ref b147), .val (.int (0 : Int32)), .val (.int (0 : Int32))] [(.int (1 : Int32))])
            refine own_st (fun t k => XS.goto X174.here hx rfl (pc0 := 237) (pc' := 241) rfl (hb hby at_237) (by decide) (by decide) k) ?_
            show own_Go p e below _ T174 (mkF m 241 #[.val (.int p1), .val (.int p2), .val (.int p3), .val (.int p4), .val (.int p5), .val (.int x0), .val (.int x2), .val (.int x1), .val (.int (2 : Int32)), .val (.int md), .val (.ref b67), .val (.int u), .val (.ref b147), .val (.int (0 : Int32)), .val (.int (0 : Int32))] [(.int (1 : Int32))])
            refine own_retN (t := .boolean) X174 hx hlk hret (by simp) (hb hby at_241) ?_ (by decide) (by decide)
            exact ⟨rfl, N174⟩
          · subst hr
            show own_Go p e below _ T174 (mkF m 184 #[.val (.int p1), .val (.int p2), .val (.int p3), .val (.int p4), .val (.int p5), .val (.int x0), .val (.int x2), .val (.int x1), .val (.int (2 : Int32)), .val (.int md), .val (.ref b67), .val (.int u), .val (.ref b147), .val (.int (1 : Int32)), .val (.int (-1 : Int32))] [(.int (2 : Int32))])
            refine own_st (fun t k => XS.ifNo X174.here hx rfl (hb hby at_184) rfl ((if0 _ _).trans (tlt (by decide : (0 : Int32) < (2 : Int32))).2.2.2) k) ?_
            show own_Go p e below _ T174 (mkF m 187 #[.val (.int p1), .val (.int p2), .val (.int p3), .val (.int p4), .val (.int p5), .val (.int x0), .val (.int x2), .val (.int x1), .val (.int (2 : Int32)), .val (.int md), .val (.ref b67), .val (.int u), .val (.ref b147), .val (.int (1 : Int32)), .val (.int (-1 : Int32))] [])
            refine own_st (fun t k => XS.iload X174.here hx rfl (hb hby at_187) rfl  k) ?_
            show own_Go p e below _ T174 (mkF m 189 #[.val (.int p1), .val (.int p2), .val (.int p3), .val (.int p4), .val (.int p5), .val (.int x0), .val (.int x2), .val (.int x1), .val (.int (2 : Int32)), .val (.int md), .val (.ref b67), .val (.int u), .val (.ref b147), .val (.int (1 : Int32)), .val (.int (-1 : Int32))] [(.int u)])
            refine own_st (fun t k => XS.iload X174.here hx rfl (hb hby at_189) rfl  k) ?_
            show own_Go p e below _ T174 (mkF m 191 #[.val (.int p1), .val (.int p2), .val (.int p3), .val (.int p4), .val (.int p5), .val (.int x0), .val (.int x2), .val (.int x1), .val (.int (2 : Int32)), .val (.int md), .val (.ref b67), .val (.int u), .val (.ref b147), .val (.int (1 : Int32)), .val (.int (-1 : Int32))] [(.int x0), (.int u)])
            refine own_st (fun t k => XS.icmpYes X174.here hx rfl (pc0 := 191) (pc' := 197) rfl (hb hby at_191) rfl (feq (by simp only [Int32.lt_iff_toInt_lt, ← Int32.toInt_inj] at hu h01 h12 ⊢; omega)).2 (by decide) (by decide) k) ?_
            show own_Go p e below _ T174 (mkF m 197 #[.val (.int p1), .val (.int p2), .val (.int p3), .val (.int p4), .val (.int p5), .val (.int x0), .val (.int x2), .val (.int x1), .val (.int (2 : Int32)), .val (.int md), .val (.ref b67), .val (.int u), .val (.ref b147), .val (.int (1 : Int32)), .val (.int (-1 : Int32))] [])
            refine own_st (fun t k => XS.iload X174.here hx rfl (hb hby at_197) rfl  k) ?_
            show own_Go p e below _ T174 (mkF m 199 #[.val (.int p1), .val (.int p2), .val (.int p3), .val (.int p4), .val (.int p5), .val (.int x0), .val (.int x2), .val (.int x1), .val (.int (2 : Int32)), .val (.int md), .val (.ref b67), .val (.int u), .val (.ref b147), .val (.int (1 : Int32)), .val (.int (-1 : Int32))] [(.int (2 : Int32))])
            refine own_st (fun t k => XS.iconst X174.here hx rfl (hb hby at_199) k) ?_
            show own_Go p e below _ T174 (mkF m 200 #[.val (.int p1), .val (.int p2), .val (.int p3), .val (.int p4), .val (.int p5), .val (.int x0), .val (.int x2), .val (.int x1), .val (.int (2 : Int32)), .val (.int md), .val (.ref b67), .val (.int u), .val (.ref b147), .val (.int (1 : Int32)), .val (.int (-1 : Int32))] [(.int (1 : Int32)), (.int (2 : Int32))])
            refine own_st (fun t k => XS.icmpNo X174.here hx rfl (hb hby at_200) rfl (tlt (by decide : (1 : Int32) < (2 : Int32))).2.2.2 k) ?_
            show own_Go p e below _ T174 (mkF m 203 #[.val (.int p1), .val (.int p2), .val (.int p3), .val (.int p4), .val (.int p5), .val (.int x0), .val (.int x2), .val (.int x1), .val (.int (2 : Int32)), .val (.int md), .val (.ref b67), .val (.int u), .val (.ref b147), .val (.int (1 : Int32)), .val (.int (-1 : Int32))] [])
            refine own_st (fun t k => XS.iload X174.here hx rfl (hb hby at_203) rfl  k) ?_
            show own_Go p e below _ T174 (mkF m 205 #[.val (.int p1), .val (.int p2), .val (.int p3), .val (.int p4), .val (.int p5), .val (.int x0), .val (.int x2), .val (.int x1), .val (.int (2 : Int32)), .val (.int md), .val (.ref b67), .val (.int u), .val (.ref b147), .val (.int (1 : Int32)), .val (.int (-1 : Int32))] [(.int u)])
            refine own_st (fun t k => XS.iload X174.here hx rfl (hb hby at_205) rfl  k) ?_
            show own_Go p e below _ T174 (mkF m 207 #[.val (.int p1), .val (.int p2), .val (.int p3), .val (.int p4), .val (.int p5), .val (.int x0), .val (.int x2), .val (.int x1), .val (.int (2 : Int32)), .val (.int md), .val (.ref b67), .val (.int u), .val (.ref b147), .val (.int (1 : Int32)), .val (.int (-1 : Int32))] [(.int x1), (.int u)])
            refine own_st (fun t k => XS.icmpNo X174.here hx rfl (hb hby at_207) rfl (teq hu).2 k) ?_
            show own_Go p e below _ T174 (mkF m 210 #[.val (.int p1), .val (.int p2), .val (.int p3), .val (.int p4), .val (.int p5), .val (.int x0), .val (.int x2), .val (.int x1), .val (.int (2 : Int32)), .val (.int md), .val (.ref b67), .val (.int u), .val (.ref b147), .val (.int (1 : Int32)), .val (.int (-1 : Int32))] [])
            refine own_st (fun t k => XS.iconst X174.here hx rfl (hb hby at_210) k) ?_
            show own_Go p e below _ T174 (mkF m 211 #[.val (.int p1), .val (.int p2), .val (.int p3), .val (.int p4), .val (.int p5), .val (.int x0), .val (.int x2), .val (.int x1), .val (.int (2 : Int32)), .val (.int md), .val (.ref b67), .val (.int u), .val (.ref b147), .val (.int (1 : Int32)), .val (.int (-1 : Int32))] [(.int (1 : Int32))])
            refine own_st (fun t k => XS.istore X174.here hx rfl (hb hby at_211) rfl (l' := #[.val (.int p1), .val (.int p2), .val (.int p3), .val (.int p4), .val (.int p5), .val (.int x0), .val (.int x2), .val (.int x1), .val (.int (2 : Int32)), .val (.int md), .val (.ref b67), .val (.int u), .val (.ref b147), .val (.int (1 : Int32)), .val (.int (1 : Int32))]) rfl k) ?_
            show own_Go p e below _ T174 (mkF m 213 #[.val (.int p1), .val (.int p2), .val (.int p3), .val (.int p4), .val (.int p5), .val (.int x0), .val (.int x2), .val (.int x1), .val (.int (2 : Int32)), .val (.int md), .val (.ref b67), .val (.int u), .val (.ref b147), .val (.int (1 : Int32)), .val (.int (1 : Int32))] [])
            refine own_st (fun t k => XS.iload X174.here hx rfl (hb hby at_213) rfl  k) ?_
            show own_Go p e below _ T174 (mkF m 215 #[.val (.int p1), .val (.int p2), .val (.int p3), .val (.int p4), .val (.int p5), .val (.int x0), .val (.int x2), .val (.int x1), .val (.int (2 : Int32)), .val (.int md), .val (.ref b67), .val (.int u), .val (.ref b147), .val (.int (1 : Int32)), .val (.int (1 : Int32))] [(.int (2 : Int32))])
            refine own_st (fun t k => XS.iconst X174.here hx rfl (hb hby at_215) k) ?_
            show own_Go p e below _ T174 (mkF m 216 #[.val (.int p1), .val (.int p2), .val (.int p3), .val (.int p4), .val (.int p5), .val (.int x0), .val (.int x2), .val (.int x1), .val (.int (2 : Int32)), .val (.int md), .val (.ref b67), .val (.int u), .val (.ref b147), .val (.int (1 : Int32)), .val (.int (1 : Int32))] [(.int (2 : Int32)), (.int (2 : Int32))])
            refine own_st (fun t k => XS.icmpYes X174.here hx rfl (pc0 := 216) (pc' := 229) rfl (hb hby at_216) rfl (flt (by decide : ¬ (2 : Int32) < (2 : Int32))).2.2.2 (by decide) (by decide) k) ?_
            show own_Go p e below _ T174 (mkF m 229 #[.val (.int p1), .val (.int p2), .val (.int p3), .val (.int p4), .val (.int p5), .val (.int x0), .val (.int x2), .val (.int x1), .val (.int (2 : Int32)), .val (.int md), .val (.ref b67), .val (.int u), .val (.ref b147), .val (.int (1 : Int32)), .val (.int (1 : Int32))] [])
            refine own_st (fun t k => XS.iload X174.here hx rfl (hb hby at_229) rfl  k) ?_
            show own_Go p e below _ T174 (mkF m 231 #[.val (.int p1), .val (.int p2), .val (.int p3), .val (.int p4), .val (.int p5), .val (.int x0), .val (.int x2), .val (.int x1), .val (.int (2 : Int32)), .val (.int md), .val (.ref b67), .val (.int u), .val (.ref b147), .val (.int (1 : Int32)), .val (.int (1 : Int32))] [(.int (1 : Int32))])
            refine own_st (fun t k => XS.iload X174.here hx rfl (hb hby at_231) rfl  k) ?_
            show own_Go p e below _ T174 (mkF m 233 #[.val (.int p1), .val (.int p2), .val (.int p3), .val (.int p4), .val (.int p5), .val (.int x0), .val (.int x2), .val (.int x1), .val (.int (2 : Int32)), .val (.int md), .val (.ref b67), .val (.int u), .val (.ref b147), .val (.int (1 : Int32)), .val (.int (1 : Int32))] [(.int (1 : Int32)), (.int (1 : Int32))])
            refine own_st (fun t k => XS.icmpNo X174.here hx rfl (hb hby at_233) rfl (teq (rfl : (1 : Int32) = (1 : Int32))).2 k) ?_
            show own_Go p e below _ T174 (mkF m 236 #[.val (.int p1), .val (.int p2), .val (.int p3), .val (.int p4), .val (.int p5), .val (.int x0), .val (.int x2), .val (.int x1), .val (.int (2 : Int32)), .val (.int md), .val (.ref b67), .val (.int u), .val (.ref b147), .val (.int (1 : Int32)), .val (.int (1 : Int32))] [])
            refine own_st (fun t k => XS.iconst X174.here hx rfl (hb hby at_236) k) ?_
            show own_Go p e below _ T174 (mkF m 237 #[.val (.int p1), .val (.int p2), .val (.int p3), .val (.int p4), .val (.int p5), .val (.int x0), .val (.int x2), .val (.int x1), .val (.int (2 : Int32)), .val (.int md), .val (.ref b67), .val (.int u), .val (.ref b147), .val (.int (1 : Int32)), .val (.int (1 : Int32))] [(.int (1 : Int32))])
            refine own_st (fun t k => XS.goto X174.here hx rfl (pc0 := 237) (pc' := 241) rfl (hb hby at_237) (by decide) (by decide) k) ?_
            show own_Go p e below _ T174 (mkF m 241 #[.val (.int p1), .val (.int p2), .val (.int p3), .val (.int p4), .val (.int p5), .val (.int x0), .val (.int x2), .val (.int x1), .val (.int (2 : Int32)), .val (.int md), .val (.ref b67), .val (.int u), .val (.ref b147), .val (.int (1 : Int32)), .val (.int (1 : Int32))] [(.int (1 : Int32))])
            refine own_retN (t := .boolean) X174 hx hlk hret (by simp) (hb hby at_241) ?_ (by decide) (by decide)
            exact ⟨rfl, N174⟩
          · subst hr
            show own_Go p e below _ T174 (mkF m 184 #[.val (.int p1), .val (.int p2), .val (.int p3), .val (.int p4), .val (.int p5), .val (.int x0), .val (.int x2), .val (.int x1), .val (.int (2 : Int32)), .val (.int md), .val (.ref b67), .val (.int u), .val (.ref b147), .val (.int (-1 : Int32)), .val (.int (-1 : Int32))] [(.int (2 : Int32))])
            refine own_st (fun t k => XS.ifNo X174.here hx rfl (hb hby at_184) rfl ((if0 _ _).trans (tlt (by decide : (0 : Int32) < (2 : Int32))).2.2.2) k) ?_
            show own_Go p e below _ T174 (mkF m 187 #[.val (.int p1), .val (.int p2), .val (.int p3), .val (.int p4), .val (.int p5), .val (.int x0), .val (.int x2), .val (.int x1), .val (.int (2 : Int32)), .val (.int md), .val (.ref b67), .val (.int u), .val (.ref b147), .val (.int (-1 : Int32)), .val (.int (-1 : Int32))] [])
            refine own_st (fun t k => XS.iload X174.here hx rfl (hb hby at_187) rfl  k) ?_
            show own_Go p e below _ T174 (mkF m 189 #[.val (.int p1), .val (.int p2), .val (.int p3), .val (.int p4), .val (.int p5), .val (.int x0), .val (.int x2), .val (.int x1), .val (.int (2 : Int32)), .val (.int md), .val (.ref b67), .val (.int u), .val (.ref b147), .val (.int (-1 : Int32)), .val (.int (-1 : Int32))] [(.int u)])
            refine own_st (fun t k => XS.iload X174.here hx rfl (hb hby at_189) rfl  k) ?_
            show own_Go p e below _ T174 (mkF m 191 #[.val (.int p1), .val (.int p2), .val (.int p3), .val (.int p4), .val (.int p5), .val (.int x0), .val (.int x2), .val (.int x1), .val (.int (2 : Int32)), .val (.int md), .val (.ref b67), .val (.int u), .val (.ref b147), .val (.int (-1 : Int32)), .val (.int (-1 : Int32))] [(.int x0), (.int u)])
            refine own_st (fun t k => XS.icmpYes X174.here hx rfl (pc0 := 191) (pc' := 197) rfl (hb hby at_191) rfl (feq hu0).2 (by decide) (by decide) k) ?_
            show own_Go p e below _ T174 (mkF m 197 #[.val (.int p1), .val (.int p2), .val (.int p3), .val (.int p4), .val (.int p5), .val (.int x0), .val (.int x2), .val (.int x1), .val (.int (2 : Int32)), .val (.int md), .val (.ref b67), .val (.int u), .val (.ref b147), .val (.int (-1 : Int32)), .val (.int (-1 : Int32))] [])
            refine own_st (fun t k => XS.iload X174.here hx rfl (hb hby at_197) rfl  k) ?_
            show own_Go p e below _ T174 (mkF m 199 #[.val (.int p1), .val (.int p2), .val (.int p3), .val (.int p4), .val (.int p5), .val (.int x0), .val (.int x2), .val (.int x1), .val (.int (2 : Int32)), .val (.int md), .val (.ref b67), .val (.int u), .val (.ref b147), .val (.int (-1 : Int32)), .val (.int (-1 : Int32))] [(.int (2 : Int32))])
            refine own_st (fun t k => XS.iconst X174.here hx rfl (hb hby at_199) k) ?_
            show own_Go p e below _ T174 (mkF m 200 #[.val (.int p1), .val (.int p2), .val (.int p3), .val (.int p4), .val (.int p5), .val (.int x0), .val (.int x2), .val (.int x1), .val (.int (2 : Int32)), .val (.int md), .val (.ref b67), .val (.int u), .val (.ref b147), .val (.int (-1 : Int32)), .val (.int (-1 : Int32))] [(.int (1 : Int32)), (.int (2 : Int32))])
            refine own_st (fun t k => XS.icmpNo X174.here hx rfl (hb hby at_200) rfl (tlt (by decide : (1 : Int32) < (2 : Int32))).2.2.2 k) ?_
            show own_Go p e below _ T174 (mkF m 203 #[.val (.int p1), .val (.int p2), .val (.int p3), .val (.int p4), .val (.int p5), .val (.int x0), .val (.int x2), .val (.int x1), .val (.int (2 : Int32)), .val (.int md), .val (.ref b67), .val (.int u), .val (.ref b147), .val (.int (-1 : Int32)), .val (.int (-1 : Int32))] [])
            refine own_st (fun t k => XS.iload X174.here hx rfl (hb hby at_203) rfl  k) ?_
            show own_Go p e below _ T174 (mkF m 205 #[.val (.int p1), .val (.int p2), .val (.int p3), .val (.int p4), .val (.int p5), .val (.int x0), .val (.int x2), .val (.int x1), .val (.int (2 : Int32)), .val (.int md), .val (.ref b67), .val (.int u), .val (.ref b147), .val (.int (-1 : Int32)), .val (.int (-1 : Int32))] [(.int u)])
            refine own_st (fun t k => XS.iload X174.here hx rfl (hb hby at_205) rfl  k) ?_
            show own_Go p e below _ T174 (mkF m 207 #[.val (.int p1), .val (.int p2), .val (.int p3), .val (.int p4), .val (.int p5), .val (.int x0), .val (.int x2), .val (.int x1), .val (.int (2 : Int32)), .val (.int md), .val (.ref b67), .val (.int u), .val (.ref b147), .val (.int (-1 : Int32)), .val (.int (-1 : Int32))] [(.int x1), (.int u)])
            refine own_st (fun t k => XS.icmpYes X174.here hx rfl (pc0 := 207) (pc' := 213) rfl (hb hby at_207) rfl (feq hu1).2 (by decide) (by decide) k) ?_
            show own_Go p e below _ T174 (mkF m 213 #[.val (.int p1), .val (.int p2), .val (.int p3), .val (.int p4), .val (.int p5), .val (.int x0), .val (.int x2), .val (.int x1), .val (.int (2 : Int32)), .val (.int md), .val (.ref b67), .val (.int u), .val (.ref b147), .val (.int (-1 : Int32)), .val (.int (-1 : Int32))] [])
            refine own_st (fun t k => XS.iload X174.here hx rfl (hb hby at_213) rfl  k) ?_
            show own_Go p e below _ T174 (mkF m 215 #[.val (.int p1), .val (.int p2), .val (.int p3), .val (.int p4), .val (.int p5), .val (.int x0), .val (.int x2), .val (.int x1), .val (.int (2 : Int32)), .val (.int md), .val (.ref b67), .val (.int u), .val (.ref b147), .val (.int (-1 : Int32)), .val (.int (-1 : Int32))] [(.int (2 : Int32))])
            refine own_st (fun t k => XS.iconst X174.here hx rfl (hb hby at_215) k) ?_
            show own_Go p e below _ T174 (mkF m 216 #[.val (.int p1), .val (.int p2), .val (.int p3), .val (.int p4), .val (.int p5), .val (.int x0), .val (.int x2), .val (.int x1), .val (.int (2 : Int32)), .val (.int md), .val (.ref b67), .val (.int u), .val (.ref b147), .val (.int (-1 : Int32)), .val (.int (-1 : Int32))] [(.int (2 : Int32)), (.int (2 : Int32))])
            refine own_st (fun t k => XS.icmpYes X174.here hx rfl (pc0 := 216) (pc' := 229) rfl (hb hby at_216) rfl (flt (by decide : ¬ (2 : Int32) < (2 : Int32))).2.2.2 (by decide) (by decide) k) ?_
            show own_Go p e below _ T174 (mkF m 229 #[.val (.int p1), .val (.int p2), .val (.int p3), .val (.int p4), .val (.int p5), .val (.int x0), .val (.int x2), .val (.int x1), .val (.int (2 : Int32)), .val (.int md), .val (.ref b67), .val (.int u), .val (.ref b147), .val (.int (-1 : Int32)), .val (.int (-1 : Int32))] [])
            refine own_st (fun t k => XS.iload X174.here hx rfl (hb hby at_229) rfl  k) ?_
            show own_Go p e below _ T174 (mkF m 231 #[.val (.int p1), .val (.int p2), .val (.int p3), .val (.int p4), .val (.int p5), .val (.int x0), .val (.int x2), .val (.int x1), .val (.int (2 : Int32)), .val (.int md), .val (.ref b67), .val (.int u), .val (.ref b147), .val (.int (-1 : Int32)), .val (.int (-1 : Int32))] [(.int (-1 : Int32))])
            refine own_st (fun t k => XS.iload X174.here hx rfl (hb hby at_231) rfl  k) ?_
            show own_Go p e below _ T174 (mkF m 233 #[.val (.int p1), .val (.int p2), .val (.int p3), .val (.int p4), .val (.int p5), .val (.int x0), .val (.int x2), .val (.int x1), .val (.int (2 : Int32)), .val (.int md), .val (.ref b67), .val (.int u), .val (.ref b147), .val (.int (-1 : Int32)), .val (.int (-1 : Int32))] [(.int (-1 : Int32)), (.int (-1 : Int32))])
            refine own_st (fun t k => XS.icmpNo X174.here hx rfl (hb hby at_233) rfl (teq (rfl : (-1 : Int32) = (-1 : Int32))).2 k) ?_
            show own_Go p e below _ T174 (mkF m 236 #[.val (.int p1), .val (.int p2), .val (.int p3), .val (.int p4), .val (.int p5), .val (.int x0), .val (.int x2), .val (.int x1), .val (.int (2 : Int32)), .val (.int md), .val (.ref b67), .val (.int u), .val (.ref b147), .val (.int (-1 : Int32)), .val (.int (-1 : Int32))] [])
            refine own_st (fun t k => XS.iconst X174.here hx rfl (hb hby at_236) k) ?_
            show own_Go p e below _ T174 (mkF m 237 #[.val (.int p1), .val (.int p2), .val (.int p3), .val (.int p4), .val (.int p5), .val (.int x0), .val (.int x2), .val (.int x1), .val (.int (2 : Int32)), .val (.int md), .val (.ref b67), .val (.int u), .val (.ref b147), .val (.int (-1 : Int32)), .val (.int (-1 : Int32))] [(.int (1 : Int32))])
            refine own_st (fun t k => XS.goto X174.here hx rfl (pc0 := 237) (pc' := 241) rfl (hb hby at_237) (by decide) (by decide) k) ?_
            show own_Go p e below _ T174 (mkF m 241 #[.val (.int p1), .val (.int p2), .val (.int p3), .val (.int p4), .val (.int p5), .val (.int x0), .val (.int x2), .val (.int x1), .val (.int (2 : Int32)), .val (.int md), .val (.ref b67), .val (.int u), .val (.ref b147), .val (.int (-1 : Int32)), .val (.int (-1 : Int32))] [(.int (1 : Int32))])
            refine own_retN (t := .boolean) X174 hx hlk hret (by simp) (hb hby at_241) ?_ (by decide) (by decide)
            exact ⟨rfl, N174⟩
        by_cases hm0 : md = (0 : Int32)
        · refine own_st (fun t k => XS.ifNo X93.here hx rfl (hb hby at_108) rfl ((if0 _ _).trans (teq hm0).2) k) ?_
          show own_Go p e below _ T93 (mkF m 111 #[.val (.int p1), .val (.int p2), .val (.int p3), .val (.int p4), .val (.int p5), .val (.int x0), .val (.int x2), .val (.int x1), .val (.int (2 : Int32)), .val (.int md), .val (.ref b67), .unset, .unset, .unset, .unset] [])
          refine own_st (fun t k => XS.iload X93.here hx rfl (hb hby at_111) rfl  k) ?_
          show own_Go p e below _ T93 (mkF m 113 #[.val (.int p1), .val (.int p2), .val (.int p3), .val (.int p4), .val (.int p5), .val (.int x0), .val (.int x2), .val (.int x1), .val (.int (2 : Int32)), .val (.int md), .val (.ref b67), .unset, .unset, .unset, .unset] [(.int x0)])
          refine own_st (fun t k => XS.istore X93.here hx rfl (hb hby at_113) rfl (l' := #[.val (.int p1), .val (.int p2), .val (.int p3), .val (.int p4), .val (.int p5), .val (.int x0), .val (.int x2), .val (.int x1), .val (.int (2 : Int32)), .val (.int md), .val (.ref b67), .val (.int x0), .unset, .unset, .unset]) rfl k) ?_
          show own_Go p e below _ T93 (mkF m 115 #[.val (.int p1), .val (.int p2), .val (.int p3), .val (.int p4), .val (.int p5), .val (.int x0), .val (.int x2), .val (.int x1), .val (.int (2 : Int32)), .val (.int md), .val (.ref b67), .val (.int x0), .unset, .unset, .unset] [])
          refine own_st (fun t k => XS.goto X93.here hx rfl (pc0 := 115) (pc' := 147) rfl (hb hby at_115) (by decide) (by decide) k) ?_
          show own_Go p e below _ T93 (mkF m 147 #[.val (.int p1), .val (.int p2), .val (.int p3), .val (.int p4), .val (.int p5), .val (.int x0), .val (.int x2), .val (.int x1), .val (.int (2 : Int32)), .val (.int md), .val (.ref b67), .val (.int x0), .unset, .unset, .unset] [])
          exact tail _
        · refine own_st (fun t k => XS.ifYes X93.here hx rfl (pc0 := 108) (pc' := 118) rfl (hb hby at_108) rfl ((if0 _ _).trans (feq hm0).2) (by decide) (by decide) k) ?_
          show own_Go p e below _ T93 (mkF m 118 #[.val (.int p1), .val (.int p2), .val (.int p3), .val (.int p4), .val (.int p5), .val (.int x0), .val (.int x2), .val (.int x1), .val (.int (2 : Int32)), .val (.int md), .val (.ref b67), .unset, .unset, .unset, .unset] [])
          refine own_st (fun t k => XS.iload X93.here hx rfl (hb hby at_118) rfl  k) ?_
          show own_Go p e below _ T93 (mkF m 120 #[.val (.int p1), .val (.int p2), .val (.int p3), .val (.int p4), .val (.int p5), .val (.int x0), .val (.int x2), .val (.int x1), .val (.int (2 : Int32)), .val (.int md), .val (.ref b67), .unset, .unset, .unset, .unset] [(.int md)])
          refine own_st (fun t k => XS.iconst X93.here hx rfl (hb hby at_120) k) ?_
          show own_Go p e below _ T93 (mkF m 121 #[.val (.int p1), .val (.int p2), .val (.int p3), .val (.int p4), .val (.int p5), .val (.int x0), .val (.int x2), .val (.int x1), .val (.int (2 : Int32)), .val (.int md), .val (.ref b67), .unset, .unset, .unset, .unset] [(.int (1 : Int32)), (.int md)])
          by_cases hm1 : md = (1 : Int32)
          · refine own_st (fun t k => XS.icmpNo X93.here hx rfl (hb hby at_121) rfl (teq hm1).2 k) ?_
            show own_Go p e below _ T93 (mkF m 124 #[.val (.int p1), .val (.int p2), .val (.int p3), .val (.int p4), .val (.int p5), .val (.int x0), .val (.int x2), .val (.int x1), .val (.int (2 : Int32)), .val (.int md), .val (.ref b67), .unset, .unset, .unset, .unset] [])
            refine own_st (fun t k => XS.iload X93.here hx rfl (hb hby at_124) rfl  k) ?_
            show own_Go p e below _ T93 (mkF m 126 #[.val (.int p1), .val (.int p2), .val (.int p3), .val (.int p4), .val (.int p5), .val (.int x0), .val (.int x2), .val (.int x1), .val (.int (2 : Int32)), .val (.int md), .val (.ref b67), .unset, .unset, .unset, .unset] [(.int x1)])
            refine own_st (fun t k => XS.istore X93.here hx rfl (hb hby at_126) rfl (l' := #[.val (.int p1), .val (.int p2), .val (.int p3), .val (.int p4), .val (.int p5), .val (.int x0), .val (.int x2), .val (.int x1), .val (.int (2 : Int32)), .val (.int md), .val (.ref b67), .val (.int x1), .unset, .unset, .unset]) rfl k) ?_
            show own_Go p e below _ T93 (mkF m 128 #[.val (.int p1), .val (.int p2), .val (.int p3), .val (.int p4), .val (.int p5), .val (.int x0), .val (.int x2), .val (.int x1), .val (.int (2 : Int32)), .val (.int md), .val (.ref b67), .val (.int x1), .unset, .unset, .unset] [])
            refine own_st (fun t k => XS.goto X93.here hx rfl (pc0 := 128) (pc' := 147) rfl (hb hby at_128) (by decide) (by decide) k) ?_
            show own_Go p e below _ T93 (mkF m 147 #[.val (.int p1), .val (.int p2), .val (.int p3), .val (.int p4), .val (.int p5), .val (.int x0), .val (.int x2), .val (.int x1), .val (.int (2 : Int32)), .val (.int md), .val (.ref b67), .val (.int x1), .unset, .unset, .unset] [])
            exact tail _
          · refine own_st (fun t k => XS.icmpYes X93.here hx rfl (pc0 := 121) (pc' := 131) rfl (hb hby at_121) rfl (feq hm1).2 (by decide) (by decide) k) ?_
            show own_Go p e below _ T93 (mkF m 131 #[.val (.int p1), .val (.int p2), .val (.int p3), .val (.int p4), .val (.int p5), .val (.int x0), .val (.int x2), .val (.int x1), .val (.int (2 : Int32)), .val (.int md), .val (.ref b67), .unset, .unset, .unset, .unset] [])
            refine own_st (fun t k => XS.iload X93.here hx rfl (hb hby at_131) rfl  k) ?_
            show own_Go p e below _ T93 (mkF m 133 #[.val (.int p1), .val (.int p2), .val (.int p3), .val (.int p4), .val (.int p5), .val (.int x0), .val (.int x2), .val (.int x1), .val (.int (2 : Int32)), .val (.int md), .val (.ref b67), .unset, .unset, .unset, .unset] [(.int md)])
            refine own_st (fun t k => XS.iconst X93.here hx rfl (hb hby at_133) k) ?_
            show own_Go p e below _ T93 (mkF m 134 #[.val (.int p1), .val (.int p2), .val (.int p3), .val (.int p4), .val (.int p5), .val (.int x0), .val (.int x2), .val (.int x1), .val (.int (2 : Int32)), .val (.int md), .val (.ref b67), .unset, .unset, .unset, .unset] [(.int (2 : Int32)), (.int md)])
            by_cases hm2 : md = (2 : Int32)
            · refine own_st (fun t k => XS.icmpNo X93.here hx rfl (hb hby at_134) rfl (teq hm2).2 k) ?_
              show own_Go p e below _ T93 (mkF m 137 #[.val (.int p1), .val (.int p2), .val (.int p3), .val (.int p4), .val (.int p5), .val (.int x0), .val (.int x2), .val (.int x1), .val (.int (2 : Int32)), .val (.int md), .val (.ref b67), .unset, .unset, .unset, .unset] [])
              refine own_st (fun t k => XS.iload X93.here hx rfl (hb hby at_137) rfl  k) ?_
              show own_Go p e below _ T93 (mkF m 139 #[.val (.int p1), .val (.int p2), .val (.int p3), .val (.int p4), .val (.int p5), .val (.int x0), .val (.int x2), .val (.int x1), .val (.int (2 : Int32)), .val (.int md), .val (.ref b67), .unset, .unset, .unset, .unset] [(.int x2)])
              refine own_st (fun t k => XS.istore X93.here hx rfl (hb hby at_139) rfl (l' := #[.val (.int p1), .val (.int p2), .val (.int p3), .val (.int p4), .val (.int p5), .val (.int x0), .val (.int x2), .val (.int x1), .val (.int (2 : Int32)), .val (.int md), .val (.ref b67), .val (.int x2), .unset, .unset, .unset]) rfl k) ?_
              show own_Go p e below _ T93 (mkF m 141 #[.val (.int p1), .val (.int p2), .val (.int p3), .val (.int p4), .val (.int p5), .val (.int x0), .val (.int x2), .val (.int x1), .val (.int (2 : Int32)), .val (.int md), .val (.ref b67), .val (.int x2), .unset, .unset, .unset] [])
              refine own_st (fun t k => XS.goto X93.here hx rfl (pc0 := 141) (pc' := 147) rfl (hb hby at_141) (by decide) (by decide) k) ?_
              show own_Go p e below _ T93 (mkF m 147 #[.val (.int p1), .val (.int p2), .val (.int p3), .val (.int p4), .val (.int p5), .val (.int x0), .val (.int x2), .val (.int x1), .val (.int (2 : Int32)), .val (.int md), .val (.ref b67), .val (.int x2), .unset, .unset, .unset] [])
              exact tail _
            · refine own_st (fun t k => XS.icmpYes X93.here hx rfl (pc0 := 134) (pc' := 144) rfl (hb hby at_134) rfl (feq hm2).2 (by decide) (by decide) k) ?_
              show own_Go p e below _ T93 (mkF m 144 #[.val (.int p1), .val (.int p2), .val (.int p3), .val (.int p4), .val (.int p5), .val (.int x0), .val (.int x2), .val (.int x1), .val (.int (2 : Int32)), .val (.int md), .val (.ref b67), .unset, .unset, .unset, .unset] [])
              refine own_st (fun t k => XS.iloadN X93.here hx rfl (hb hby at_144) rfl  k) ?_
              show own_Go p e below _ T93 (mkF m 145 #[.val (.int p1), .val (.int p2), .val (.int p3), .val (.int p4), .val (.int p5), .val (.int x0), .val (.int x2), .val (.int x1), .val (.int (2 : Int32)), .val (.int md), .val (.ref b67), .unset, .unset, .unset, .unset] [(.int p4)])
              refine own_st (fun t k => XS.istore X93.here hx rfl (hb hby at_145) rfl (l' := #[.val (.int p1), .val (.int p2), .val (.int p3), .val (.int p4), .val (.int p5), .val (.int x0), .val (.int x2), .val (.int x1), .val (.int (2 : Int32)), .val (.int md), .val (.ref b67), .val (.int p4), .unset, .unset, .unset]) rfl k) ?_
              show own_Go p e below _ T93 (mkF m 147 #[.val (.int p1), .val (.int p2), .val (.int p3), .val (.int p4), .val (.int p5), .val (.int x0), .val (.int x2), .val (.int x1), .val (.int (2 : Int32)), .val (.int md), .val (.ref b67), .val (.int p4), .unset, .unset, .unset] [])
              exact tail _
      · rw [hq]
        show own_Go p e below _ T17 (mkF m 55 #[.val (.int p1), .val (.int p2), .val (.int p3), .val (.int p4), .val (.int p5), .val (.int x0), .val (.int x2), .val (.int x1), .unset, .unset, .unset, .unset, .unset, .unset, .unset] [(.int (3 : Int32))])
        refine own_st (fun t k => XS.istore X17.here hx rfl (hb hby at_55) rfl (l' := #[.val (.int p1), .val (.int p2), .val (.int p3), .val (.int p4), .val (.int p5), .val (.int x0), .val (.int x2), .val (.int x1), .val (.int (3 : Int32)), .unset, .unset, .unset, .unset, .unset, .unset]) rfl k) ?_
        show own_Go p e below _ T17 (mkF m 57 #[.val (.int p1), .val (.int p2), .val (.int p3), .val (.int p4), .val (.int p5), .val (.int x0), .val (.int x2), .val (.int x1), .val (.int (3 : Int32)), .unset, .unset, .unset, .unset, .unset, .unset] [])
        refine own_st (fun t k => XS.iload X17.here hx rfl (hb hby at_57) rfl  k) ?_
        show own_Go p e below _ T17 (mkF m 59 #[.val (.int p1), .val (.int p2), .val (.int p3), .val (.int p4), .val (.int p5), .val (.int x0), .val (.int x2), .val (.int x1), .val (.int (3 : Int32)), .unset, .unset, .unset, .unset, .unset, .unset] [(.int p5)])
        refine own_st (fun t k => XS.iconst X17.here hx rfl (hb hby at_59) k) ?_
        show own_Go p e below _ T17 (mkF m 60 #[.val (.int p1), .val (.int p2), .val (.int p3), .val (.int p4), .val (.int p5), .val (.int x0), .val (.int x2), .val (.int x1), .val (.int (3 : Int32)), .unset, .unset, .unset, .unset, .unset, .unset] [(.int (2 : Int32)), (.int p5)])
        refine own_st (fun t k => XS.iushr X17.here hx rfl (hb hby at_60) rfl k) ?_
        show own_Go p e below _ T17 (mkF m 61 #[.val (.int p1), .val (.int p2), .val (.int p3), .val (.int p4), .val (.int p5), .val (.int x0), .val (.int x2), .val (.int x1), .val (.int (3 : Int32)), .unset, .unset, .unset, .unset, .unset, .unset] [(.int ((p5.toUInt32 >>> ((2 : Int32) &&& 31).toUInt32).toInt32))])
        refine own_st (fun t k => XS.iconst X17.here hx rfl (hb hby at_61) k) ?_
        show own_Go p e below _ T17 (mkF m 62 #[.val (.int p1), .val (.int p2), .val (.int p3), .val (.int p4), .val (.int p5), .val (.int x0), .val (.int x2), .val (.int x1), .val (.int (3 : Int32)), .unset, .unset, .unset, .unset, .unset, .unset] [(.int (3 : Int32)), (.int ((p5.toUInt32 >>> ((2 : Int32) &&& 31).toUInt32).toInt32))])
        refine own_st (fun t k => XS.iand X17.here hx rfl (hb hby at_62) rfl k) ?_
        show own_Go p e below _ T17 (mkF m 63 #[.val (.int p1), .val (.int p2), .val (.int p3), .val (.int p4), .val (.int p5), .val (.int x0), .val (.int x2), .val (.int x1), .val (.int (3 : Int32)), .unset, .unset, .unset, .unset, .unset, .unset] [(.int (((p5.toUInt32 >>> ((2 : Int32) &&& 31).toUInt32).toInt32) &&& (3 : Int32)))])
        generalize (((p5.toUInt32 >>> ((2 : Int32) &&& 31).toUInt32).toInt32) &&& (3 : Int32)) = md
        show own_Go p e below _ T17 (mkF m 63 #[.val (.int p1), .val (.int p2), .val (.int p3), .val (.int p4), .val (.int p5), .val (.int x0), .val (.int x2), .val (.int x1), .val (.int (3 : Int32)), .unset, .unset, .unset, .unset, .unset, .unset] [(.int md)])
        refine own_st (fun t k => XS.istore X17.here hx rfl (hb hby at_63) rfl (l' := #[.val (.int p1), .val (.int p2), .val (.int p3), .val (.int p4), .val (.int p5), .val (.int x0), .val (.int x2), .val (.int x1), .val (.int (3 : Int32)), .val (.int md), .unset, .unset, .unset, .unset, .unset]) rfl k) ?_
        show own_Go p e below _ T17 (mkF m 65 #[.val (.int p1), .val (.int p2), .val (.int p3), .val (.int p4), .val (.int p5), .val (.int x0), .val (.int x2), .val (.int x1), .val (.int (3 : Int32)), .val (.int md), .unset, .unset, .unset, .unset, .unset] [])
        refine own_st (fun t k => XS.iload X17.here hx rfl (hb hby at_65) rfl  k) ?_
        show own_Go p e below _ T17 (mkF m 67 #[.val (.int p1), .val (.int p2), .val (.int p3), .val (.int p4), .val (.int p5), .val (.int x0), .val (.int x2), .val (.int x1), .val (.int (3 : Int32)), .val (.int md), .unset, .unset, .unset, .unset, .unset] [(.int (3 : Int32))])
        obtain ⟨T67, h67, k67, X67, e67, E67, A67, st67⟩ := newP X17 hx hZ (hw _ (List.mem_of_getElem? (i := 7) rfl)) k4 (g := (mkF m 67 #[.val (.int p1), .val (.int p2), .val (.int p3), .val (.int p4), .val (.int p5), .val (.int x0), .val (.int x2), .val (.int x1), .val (.int (3 : Int32)), .val (.int md), .unset, .unset, .unset, .unset, .unset] [(.int (3 : Int32))])) rfl (hb hby at_67) rfl (by decide) (cap := 3) (by decide) (by decide) (by decide) (by decide)
        obtain ⟨b67, g67⟩ : ∃ z, z = h0.size := ⟨_, rfl⟩
        rw [← g67] at A67 st67
        have V67 : Arv Z h67 b67 k67 .int (3 : Int32) [(.int (0 : Int32)), (.int (0 : Int32)), (.int (0 : Int32))] (.int (0 : Int32)) := (Arv.new A67 (by decide)).pad (pad_rep [] (.int (0 : Int32)) 3)
        refine own_st st67 ?_
        show own_Go p e below _ T67 (mkF m 69 #[.val (.int p1), .val (.int p2), .val (.int p3), .val (.int p4), .val (.int p5), .val (.int x0), .val (.int x2), .val (.int x1), .val (.int (3 : Int32)), .val (.int md), .unset, .unset, .unset, .unset, .unset] [(.ref b67)])
        have Z67 : n0 ≤ h67.size := Nat.le_trans Z0 E67.1
        have gr : n0 ≤ b67 := Nat.le_trans Z0 (Nat.le_of_eq g67.symm)
        refine own_st (fun t k => XS.astore X67.here hx rfl (hb hby at_69) rfl rfl (l' := #[.val (.int p1), .val (.int p2), .val (.int p3), .val (.int p4), .val (.int p5), .val (.int x0), .val (.int x2), .val (.int x1), .val (.int (3 : Int32)), .val (.int md), .val (.ref b67), .unset, .unset, .unset, .unset]) rfl k) ?_
        show own_Go p e below _ T67 (mkF m 71 #[.val (.int p1), .val (.int p2), .val (.int p3), .val (.int p4), .val (.int p5), .val (.int x0), .val (.int x2), .val (.int x1), .val (.int (3 : Int32)), .val (.int md), .val (.ref b67), .unset, .unset, .unset, .unset] [])
        refine own_st (fun t k => XS.iload X67.here hx rfl (hb hby at_71) rfl  k) ?_
        show own_Go p e below _ T67 (mkF m 73 #[.val (.int p1), .val (.int p2), .val (.int p3), .val (.int p4), .val (.int p5), .val (.int x0), .val (.int x2), .val (.int x1), .val (.int (3 : Int32)), .val (.int md), .val (.ref b67), .unset, .unset, .unset, .unset] [(.int (3 : Int32))])
        refine own_st (fun t k => XS.ifNo X67.here hx rfl (hb hby at_73) rfl ((if0 _ _).trans (tlt (by decide : (0 : Int32) < (3 : Int32))).2.2.2) k) ?_
        show own_Go p e below _ T67 (mkF m 76 #[.val (.int p1), .val (.int p2), .val (.int p3), .val (.int p4), .val (.int p5), .val (.int x0), .val (.int x2), .val (.int x1), .val (.int (3 : Int32)), .val (.int md), .val (.ref b67), .unset, .unset, .unset, .unset] [])
        refine own_st (fun t k => XS.aload X67.here hx rfl (hb hby at_76) rfl rfl k) ?_
        show own_Go p e below _ T67 (mkF m 78 #[.val (.int p1), .val (.int p2), .val (.int p3), .val (.int p4), .val (.int p5), .val (.int x0), .val (.int x2), .val (.int x1), .val (.int (3 : Int32)), .val (.int md), .val (.ref b67), .unset, .unset, .unset, .unset] [(.ref b67)])
        refine own_st (fun t k => XS.iconst X67.here hx rfl (hb hby at_78) k) ?_
        show own_Go p e below _ T67 (mkF m 79 #[.val (.int p1), .val (.int p2), .val (.int p3), .val (.int p4), .val (.int p5), .val (.int x0), .val (.int x2), .val (.int x1), .val (.int (3 : Int32)), .val (.int md), .val (.ref b67), .unset, .unset, .unset, .unset] [(.int (0 : Int32)), (.ref b67)])
        refine own_st (fun t k => XS.iload X67.here hx rfl (hb hby at_79) rfl  k) ?_
        show own_Go p e below _ T67 (mkF m 81 #[.val (.int p1), .val (.int p2), .val (.int p3), .val (.int p4), .val (.int p5), .val (.int x0), .val (.int x2), .val (.int x1), .val (.int (3 : Int32)), .val (.int md), .val (.ref b67), .unset, .unset, .unset, .unset] [(.int x0), (.int (0 : Int32)), (.ref b67)])
        obtain ⟨cl81, Ar81, q81, S81, M81, H81, G81⟩ := V67
        have hin81 : ¬ ((0 : Int32) < 0 ∨ cl81.slots.size ≤ ((0 : Int32)).toNatClampNeg) := inb_of S81 ⟨by decide, by decide⟩
        obtain ⟨T81, h81, X81, e81, W81, st81⟩ := stI X67 hx hZ e67 Ar81 (j := (0 : Int32)) hin81 (g := (mkF m 81 #[.val (.int p1), .val (.int p2), .val (.int p3), .val (.int p4), .val (.int p5), .val (.int x0), .val (.int x2), .val (.int x1), .val (.int (3 : Int32)), .val (.int md), .val (.ref b67), .unset, .unset, .unset, .unset] [(.int x0), (.int (0 : Int32)), (.ref b67)])) rfl rfl (hb hby at_81)
        refine own_st st81 ?_
        have V81 := Arv.set Ar81 q81 S81 M81 H81 G81 rfl W81 0 rfl (Nat.le_of_ble_eq_true rfl)
        have N81 := Fr.snoc X81 Q4 gr
        show own_Go p e below _ T81 (mkF m 82 #[.val (.int p1), .val (.int p2), .val (.int p3), .val (.int p4), .val (.int p5), .val (.int x0), .val (.int x2), .val (.int x1), .val (.int (3 : Int32)), .val (.int md), .val (.ref b67), .unset, .unset, .unset, .unset] [])
        have Z81 : n0 ≤ h81.size := Nat.le_trans Z67 (Keep.of_wr W81).1
        refine own_st (fun t k => XS.iload X81.here hx rfl (hb hby at_82) rfl  k) ?_
        show own_Go p e below _ T81 (mkF m 84 #[.val (.int p1), .val (.int p2), .val (.int p3), .val (.int p4), .val (.int p5), .val (.int x0), .val (.int x2), .val (.int x1), .val (.int (3 : Int32)), .val (.int md), .val (.ref b67), .unset, .unset, .unset, .unset] [(.int (3 : Int32))])
        refine own_st (fun t k => XS.iconst X81.here hx rfl (hb hby at_84) k) ?_
        show own_Go p e below _ T81 (mkF m 85 #[.val (.int p1), .val (.int p2), .val (.int p3), .val (.int p4), .val (.int p5), .val (.int x0), .val (.int x2), .val (.int x1), .val (.int (3 : Int32)), .val (.int md), .val (.ref b67), .unset, .unset, .unset, .unset] [(.int (1 : Int32)), (.int (3 : Int32))])
        refine own_st (fun t k => XS.icmpNo X81.here hx rfl (hb hby at_85) rfl (tlt (by decide : (1 : Int32) < (3 : Int32))).2.2.2 k) ?_
        show own_Go p e below _ T81 (mkF m 88 #[.val (.int p1), .val (.int p2), .val (.int p3), .val (.int p4), .val (.int p5), .val (.int x0), .val (.int x2), .val (.int x1), .val (.int (3 : Int32)), .val (.int md), .val (.ref b67), .unset, .unset, .unset, .unset] [])
        refine own_st (fun t k => XS.aload X81.here hx rfl (hb hby at_88) rfl rfl k) ?_
        show own_Go p e below _ T81 (mkF m 90 #[.val (.int p1), .val (.int p2), .val (.int p3), .val (.int p4), .val (.int p5), .val (.int x0), .val (.int x2), .val (.int x1), .val (.int (3 : Int32)), .val (.int md), .val (.ref b67), .unset, .unset, .unset, .unset] [(.ref b67)])
        refine own_st (fun t k => XS.iconst X81.here hx rfl (hb hby at_90) k) ?_
        show own_Go p e below _ T81 (mkF m 91 #[.val (.int p1), .val (.int p2), .val (.int p3), .val (.int p4), .val (.int p5), .val (.int x0), .val (.int x2), .val (.int x1), .val (.int (3 : Int32)), .val (.int md), .val (.ref b67), .unset, .unset, .unset, .unset] [(.int (1 : Int32)), (.ref b67)])
        refine own_st (fun t k => XS.iload X81.here hx rfl (hb hby at_91) rfl  k) ?_
        show own_Go p e below _ T81 (mkF m 93 #[.val (.int p1), .val (.int p2), .val (.int p3), .val (.int p4), .val (.int p5), .val (.int x0), .val (.int x2), .val (.int x1), .val (.int (3 : Int32)), .val (.int md), .val (.ref b67), .unset, .unset, .unset, .unset] [(.int x1), (.int (1 : Int32)), (.ref b67)])
        obtain ⟨cl93, Ar93, q93, S93, M93, H93, G93⟩ := V81
        have hin93 : ¬ ((1 : Int32) < 0 ∨ cl93.slots.size ≤ ((1 : Int32)).toNatClampNeg) := inb_of S93 ⟨by decide, by decide⟩
        obtain ⟨T93, h93, X93, e93, W93, st93⟩ := stI X81 hx hZ e81 Ar93 (j := (1 : Int32)) hin93 (g := (mkF m 93 #[.val (.int p1), .val (.int p2), .val (.int p3), .val (.int p4), .val (.int p5), .val (.int x0), .val (.int x2), .val (.int x1), .val (.int (3 : Int32)), .val (.int md), .val (.ref b67), .unset, .unset, .unset, .unset] [(.int x1), (.int (1 : Int32)), (.ref b67)])) rfl rfl (hb hby at_93)
        refine own_st st93 ?_
        have V93 := Arv.set Ar93 q93 S93 M93 H93 G93 rfl W93 1 rfl (Nat.le_of_ble_eq_true rfl)
        have N93 := Fr.snoc X93 N81 gr
        show own_Go p e below _ T93 (mkF m 94 #[.val (.int p1), .val (.int p2), .val (.int p3), .val (.int p4), .val (.int p5), .val (.int x0), .val (.int x2), .val (.int x1), .val (.int (3 : Int32)), .val (.int md), .val (.ref b67), .unset, .unset, .unset, .unset] [])
        have Z93 : n0 ≤ h93.size := Nat.le_trans Z81 (Keep.of_wr W93).1
        refine own_st (fun t k => XS.iload X93.here hx rfl (hb hby at_94) rfl  k) ?_
        show own_Go p e below _ T93 (mkF m 96 #[.val (.int p1), .val (.int p2), .val (.int p3), .val (.int p4), .val (.int p5), .val (.int x0), .val (.int x2), .val (.int x1), .val (.int (3 : Int32)), .val (.int md), .val (.ref b67), .unset, .unset, .unset, .unset] [(.int (3 : Int32))])
        refine own_st (fun t k => XS.iconst X93.here hx rfl (hb hby at_96) k) ?_
        show own_Go p e below _ T93 (mkF m 97 #[.val (.int p1), .val (.int p2), .val (.int p3), .val (.int p4), .val (.int p5), .val (.int x0), .val (.int x2), .val (.int x1), .val (.int (3 : Int32)), .val (.int md), .val (.ref b67), .unset, .unset, .unset, .unset] [(.int (2 : Int32)), (.int (3 : Int32))])
        refine own_st (fun t k => XS.icmpNo X93.here hx rfl (hb hby at_97) rfl (tlt (by decide : (2 : Int32) < (3 : Int32))).2.2.2 k) ?_
        show own_Go p e below _ T93 (mkF m 100 #[.val (.int p1), .val (.int p2), .val (.int p3), .val (.int p4), .val (.int p5), .val (.int x0), .val (.int x2), .val (.int x1), .val (.int (3 : Int32)), .val (.int md), .val (.ref b67), .unset, .unset, .unset, .unset] [])
        refine own_st (fun t k => XS.aload X93.here hx rfl (hb hby at_100) rfl rfl k) ?_
        show own_Go p e below _ T93 (mkF m 102 #[.val (.int p1), .val (.int p2), .val (.int p3), .val (.int p4), .val (.int p5), .val (.int x0), .val (.int x2), .val (.int x1), .val (.int (3 : Int32)), .val (.int md), .val (.ref b67), .unset, .unset, .unset, .unset] [(.ref b67)])
        refine own_st (fun t k => XS.iconst X93.here hx rfl (hb hby at_102) k) ?_
        show own_Go p e below _ T93 (mkF m 103 #[.val (.int p1), .val (.int p2), .val (.int p3), .val (.int p4), .val (.int p5), .val (.int x0), .val (.int x2), .val (.int x1), .val (.int (3 : Int32)), .val (.int md), .val (.ref b67), .unset, .unset, .unset, .unset] [(.int (2 : Int32)), (.ref b67)])
        refine own_st (fun t k => XS.iload X93.here hx rfl (hb hby at_103) rfl  k) ?_
        show own_Go p e below _ T93 (mkF m 105 #[.val (.int p1), .val (.int p2), .val (.int p3), .val (.int p4), .val (.int p5), .val (.int x0), .val (.int x2), .val (.int x1), .val (.int (3 : Int32)), .val (.int md), .val (.ref b67), .unset, .unset, .unset, .unset] [(.int x2), (.int (2 : Int32)), (.ref b67)])
        obtain ⟨cl105, Ar105, q105, S105, M105, H105, G105⟩ := V93
        have hin105 : ¬ ((2 : Int32) < 0 ∨ cl105.slots.size ≤ ((2 : Int32)).toNatClampNeg) := inb_of S105 ⟨by decide, by decide⟩
        obtain ⟨T105, h105, X105, e105, W105, st105⟩ := stI X93 hx hZ e93 Ar105 (j := (2 : Int32)) hin105 (g := (mkF m 105 #[.val (.int p1), .val (.int p2), .val (.int p3), .val (.int p4), .val (.int p5), .val (.int x0), .val (.int x2), .val (.int x1), .val (.int (3 : Int32)), .val (.int md), .val (.ref b67), .unset, .unset, .unset, .unset] [(.int x2), (.int (2 : Int32)), (.ref b67)])) rfl rfl (hb hby at_105)
        refine own_st st105 ?_
        have V105 := Arv.set Ar105 q105 S105 M105 H105 G105 rfl W105 2 rfl (Nat.le_of_ble_eq_true rfl)
        have N105 := Fr.snoc X105 N93 gr
        show own_Go p e below _ T105 (mkF m 106 #[.val (.int p1), .val (.int p2), .val (.int p3), .val (.int p4), .val (.int p5), .val (.int x0), .val (.int x2), .val (.int x1), .val (.int (3 : Int32)), .val (.int md), .val (.ref b67), .unset, .unset, .unset, .unset] [])
        have Z105 : n0 ≤ h105.size := Nat.le_trans Z93 (Keep.of_wr W105).1
        refine own_st (fun t k => XS.iload X105.here hx rfl (hb hby at_106) rfl  k) ?_
        show own_Go p e below _ T105 (mkF m 108 #[.val (.int p1), .val (.int p2), .val (.int p3), .val (.int p4), .val (.int p5), .val (.int x0), .val (.int x2), .val (.int x1), .val (.int (3 : Int32)), .val (.int md), .val (.ref b67), .unset, .unset, .unset, .unset] [(.int md)])
        have tail : ∀ u : Int32, own_Go p e below (own_P s (fun v h L => v = some (.int 1) ∧ Fr n0 L) room_1.cells room_1.slots) T105 (mkF m 147 #[.val (.int p1), .val (.int p2), .val (.int p3), .val (.int p4), .val (.int p5), .val (.int x0), .val (.int x2), .val (.int x1), .val (.int (3 : Int32)), .val (.int md), .val (.ref b67), .val (.int u), .unset, .unset, .unset] []) := by
          intro u
          show own_Go p e below _ T105 (mkF m 147 #[.val (.int p1), .val (.int p2), .val (.int p3), .val (.int p4), .val (.int p5), .val (.int x0), .val (.int x2), .val (.int x1), .val (.int (3 : Int32)), .val (.int md), .val (.ref b67), .val (.int u), .unset, .unset, .unset] [])
          obtain ⟨T147, h147, X147, e147, E147, A147, D147, -, st147⟩ := newO X105 hx hZ hown (hw _ (List.mem_of_getElem? (i := 8) rfl)) (hw _ (List.mem_of_getElem? (i := 9) rfl)) (hw _ (List.mem_of_getElem? (i := 10) rfl)) e105 (g := (mkF m 147 #[.val (.int p1), .val (.int p2), .val (.int p3), .val (.int p4), .val (.int p5), .val (.int x0), .val (.int x2), .val (.int x1), .val (.int (3 : Int32)), .val (.int md), .val (.ref b67), .val (.int u), .unset, .unset, .unset] [])) rfl (hb hby at_147) (by decide) (by decide)
          obtain ⟨b147, g147⟩ : ∃ z, z = h105.size := ⟨_, rfl⟩
          rw [← g147] at A147 D147 st147
          have F147_resources : Fld Z h147 b147 "com/example/rank3/rank3/text/Postings" "resources" "[I" .null := D147 (Or.inr (hw _ (List.mem_of_getElem? (i := 19) rfl))) (ty := (.array .int)) (by decide)
          have F147_titleCounts : Fld Z h147 b147 "com/example/rank3/rank3/text/Postings" "titleCounts" "[I" .null := D147 (Or.inr (hw _ (List.mem_of_getElem? (i := 21) rfl))) (ty := (.array .int)) (by decide)
          have F147_contentCounts : Fld Z h147 b147 "com/example/rank3/rank3/text/Postings" "contentCounts" "[I" .null := D147 (Or.inr (hw _ (List.mem_of_getElem? (i := 23) rfl))) (ty := (.array .int)) (by decide)
          have F147_inStructure : Fld Z h147 b147 "com/example/rank3/rank3/text/Postings" "inStructure" "[Z" .null := D147 (Or.inr (hw _ (List.mem_of_getElem? (i := 25) rfl))) (ty := (.array .boolean)) (by decide)
          have F147_collectionCount : Fld Z h147 b147 "com/example/rank3/rank3/text/Postings" "collectionCount" "J" (.long (0 : Int64)) := D147 (Or.inr (hw _ (List.mem_of_getElem? (i := 27) rfl))) (ty := .long) (by decide)
          refine own_st st147 ?_
          show own_Go p e below _ T147 (mkF m 150 #[.val (.int p1), .val (.int p2), .val (.int p3), .val (.int p4), .val (.int p5), .val (.int x0), .val (.int x2), .val (.int x1), .val (.int (3 : Int32)), .val (.int md), .val (.ref b67), .val (.int u), .unset, .unset, .unset] [(.ref b147)])
          have Z147 : n0 ≤ h147.size := Nat.le_trans Z105 E147.1
          have go : n0 ≤ b147 := Nat.le_trans Z105 (Nat.le_of_eq g147.symm)
          have nr : b67 ≠ b147 := Nat.ne_of_lt (Nat.lt_of_lt_of_le V105.lt (Nat.le_of_eq g147.symm))
          refine own_st (fun t k => XS.dup X147.here hx rfl (hb hby at_150) rfl rfl k) ?_
          show own_Go p e below _ T147 (mkF m 151 #[.val (.int p1), .val (.int p2), .val (.int p3), .val (.int p4), .val (.int p5), .val (.int x0), .val (.int x2), .val (.int x1), .val (.int (3 : Int32)), .val (.int md), .val (.ref b67), .val (.int u), .unset, .unset, .unset] [(.ref b147), (.ref b147)])
          refine own_st (fun t k => XS.aload X147.here hx rfl (hb hby at_151) rfl rfl k) ?_
          show own_Go p e below _ T147 (mkF m 153 #[.val (.int p1), .val (.int p2), .val (.int p3), .val (.int p4), .val (.int p5), .val (.int x0), .val (.int x2), .val (.int x1), .val (.int (3 : Int32)), .val (.int md), .val (.ref b67), .val (.int u), .unset, .unset, .unset] [(.ref b67), (.ref b147), (.ref b147)])
          refine own_st (fun t k => XS.iload X147.here hx rfl (hb hby at_153) rfl  k) ?_
          show own_Go p e below _ T147 (mkF m 155 #[.val (.int p1), .val (.int p2), .val (.int p3), .val (.int p4), .val (.int p5), .val (.int x0), .val (.int x2), .val (.int x1), .val (.int (3 : Int32)), .val (.int md), .val (.ref b67), .val (.int u), .unset, .unset, .unset] [(.int (3 : Int32)), (.ref b67), (.ref b147), (.ref b147)])
          obtain ⟨T155, h155, k155, X155, e155, E155, A155, st155⟩ := newP X147 hx hZ (hw _ (List.mem_of_getElem? (i := 7) rfl)) e147 (g := (mkF m 155 #[.val (.int p1), .val (.int p2), .val (.int p3), .val (.int p4), .val (.int p5), .val (.int x0), .val (.int x2), .val (.int x1), .val (.int (3 : Int32)), .val (.int md), .val (.ref b67), .val (.int u), .unset, .unset, .unset] [(.int (3 : Int32)), (.ref b67), (.ref b147), (.ref b147)])) rfl (hb hby at_155) rfl (by decide) (cap := 3) (by decide) (by decide) (by decide) (by decide)
          obtain ⟨b155, g155⟩ : ∃ z, z = h147.size := ⟨_, rfl⟩
          rw [← g155] at A155 st155
          have V155 : Arv Z h155 b155 k155 .int (3 : Int32) [(.int (0 : Int32)), (.int (0 : Int32)), (.int (0 : Int32))] (.int (0 : Int32)) := (Arv.new A155 (by decide)).pad (pad_rep [] (.int (0 : Int32)) 3)
          refine own_st st155 ?_
          show own_Go p e below _ T155 (mkF m 157 #[.val (.int p1), .val (.int p2), .val (.int p3), .val (.int p4), .val (.int p5), .val (.int x0), .val (.int x2), .val (.int x1), .val (.int (3 : Int32)), .val (.int md), .val (.ref b67), .val (.int u), .unset, .unset, .unset] [(.ref b155), (.ref b67), (.ref b147), (.ref b147)])
          have Z155 : n0 ≤ h155.size := Nat.le_trans Z147 E155.1
          have ne155 : b155 ≠ b147 := Nat.ne_of_gt (Nat.lt_of_lt_of_le A147.lt (Nat.le_of_eq g155.symm))
          refine own_st (fun t k => XS.iload X155.here hx rfl (hb hby at_157) rfl  k) ?_
          show own_Go p e below _ T155 (mkF m 159 #[.val (.int p1), .val (.int p2), .val (.int p3), .val (.int p4), .val (.int p5), .val (.int x0), .val (.int x2), .val (.int x1), .val (.int (3 : Int32)), .val (.int md), .val (.ref b67), .val (.int u), .unset, .unset, .unset] [(.int (3 : Int32)), (.ref b155), (.ref b67), (.ref b147), (.ref b147)])
          obtain ⟨T159, h159, k159, X159, e159, E159, A159, st159⟩ := newP X155 hx hZ (hw _ (List.mem_of_getElem? (i := 7) rfl)) e155 (g := (mkF m 159 #[.val (.int p1), .val (.int p2), .val (.int p3), .val (.int p4), .val (.int p5), .val (.int x0), .val (.int x2), .val (.int x1), .val (.int (3 : Int32)), .val (.int md), .val (.ref b67), .val (.int u), .unset, .unset, .unset] [(.int (3 : Int32)), (.ref b155), (.ref b67), (.ref b147), (.ref b147)])) rfl (hb hby at_159) rfl (by decide) (cap := 3) (by decide) (by decide) (by decide) (by decide)
          obtain ⟨b159, g159⟩ : ∃ z, z = h155.size := ⟨_, rfl⟩
          rw [← g159] at A159 st159
          have V159 : Arv Z h159 b159 k159 .int (3 : Int32) [(.int (0 : Int32)), (.int (0 : Int32)), (.int (0 : Int32))] (.int (0 : Int32)) := (Arv.new A159 (by decide)).pad (pad_rep [] (.int (0 : Int32)) 3)
          refine own_st st159 ?_
          show own_Go p e below _ T159 (mkF m 161 #[.val (.int p1), .val (.int p2), .val (.int p3), .val (.int p4), .val (.int p5), .val (.int x0), .val (.int x2), .val (.int x1), .val (.int (3 : Int32)), .val (.int md), .val (.ref b67), .val (.int u), .unset, .unset, .unset] [(.ref b159), (.ref b155), (.ref b67), (.ref b147), (.ref b147)])
          have Z159 : n0 ≤ h159.size := Nat.le_trans Z155 E159.1
          have ne159 : b159 ≠ b147 := Nat.ne_of_gt (Nat.lt_of_lt_of_le (A147.ext E155).lt (Nat.le_of_eq g159.symm))
          refine own_st (fun t k => XS.iload X159.here hx rfl (hb hby at_161) rfl  k) ?_
          show own_Go p e below _ T159 (mkF m 163 #[.val (.int p1), .val (.int p2), .val (.int p3), .val (.int p4), .val (.int p5), .val (.int x0), .val (.int x2), .val (.int x1), .val (.int (3 : Int32)), .val (.int md), .val (.ref b67), .val (.int u), .unset, .unset, .unset] [(.int (3 : Int32)), (.ref b159), (.ref b155), (.ref b67), (.ref b147), (.ref b147)])
          obtain ⟨T163, h163, k163, X163, e163, E163, A163, st163⟩ := newP X159 hx hZ (hw _ (List.mem_of_getElem? (i := 11) rfl)) e159 (g := (mkF m 163 #[.val (.int p1), .val (.int p2), .val (.int p3), .val (.int p4), .val (.int p5), .val (.int x0), .val (.int x2), .val (.int x1), .val (.int (3 : Int32)), .val (.int md), .val (.ref b67), .val (.int u), .unset, .unset, .unset] [(.int (3 : Int32)), (.ref b159), (.ref b155), (.ref b67), (.ref b147), (.ref b147)])) rfl (hb hby at_163) rfl (by decide) (cap := 3) (by decide) (by decide) (by decide) (by decide)
          obtain ⟨b163, g163⟩ : ∃ z, z = h159.size := ⟨_, rfl⟩
          rw [← g163] at A163 st163
          have V163 : Arv Z h163 b163 k163 .boolean (3 : Int32) [(.int (0 : Int32)), (.int (0 : Int32)), (.int (0 : Int32))] (.int (0 : Int32)) := (Arv.new A163 (by decide)).pad (pad_rep [] (.int (0 : Int32)) 3)
          refine own_st st163 ?_
          show own_Go p e below _ T163 (mkF m 165 #[.val (.int p1), .val (.int p2), .val (.int p3), .val (.int p4), .val (.int p5), .val (.int x0), .val (.int x2), .val (.int x1), .val (.int (3 : Int32)), .val (.int md), .val (.ref b67), .val (.int u), .unset, .unset, .unset] [(.ref b163), (.ref b159), (.ref b155), (.ref b67), (.ref b147), (.ref b147)])
          have Z163 : n0 ≤ h163.size := Nat.le_trans Z159 E163.1
          have ne163 : b163 ≠ b147 := Nat.ne_of_gt (Nat.lt_of_lt_of_le ((A147.ext E155).ext E159).lt (Nat.le_of_eq g163.symm))
          refine own_callI X163 hx hZ (y := (⟨"com/example/rank3/rank3/text/Postings", "<init>", "([I[I[I[Z)V"⟩ : MethodName)) (W := 1) (kc := 0) (ks := 0) rfl hown (hw _ (List.mem_of_getElem? (i := 12) rfl)) (hw _ (List.mem_of_getElem? (i := 13) rfl)) (hw _ (List.mem_of_getElem? (i := 14) rfl)) (own_back (W := 1) (rm_in3 l Z a0 hw [] b147 b67 b155 b159 b163 k159 h163 n0 Z163 (((A147.ext E155).ext E159).ext E163) (((F147_resources.ext E155).ext E159).ext E163) (((F147_titleCounts.ext E155).ext E159).ext E163) (((F147_contentCounts.ext E155).ext E159).ext E163) (((F147_inStructure.ext E155).ext E159).ext E163) (((F147_collectionCount.ext E155).ext E159).ext E163) go (V159.ext E163) ne159) hZ (hw _ (List.mem_of_getElem? (i := 14) rfl)) (hw _ (List.mem_of_getElem? (i := 10) rfl)) (by decide) (by decide)) (by decide) (g := (mkF m 165 #[.val (.int p1), .val (.int p2), .val (.int p3), .val (.int p4), .val (.int p5), .val (.int x0), .val (.int x2), .val (.int x1), .val (.int (3 : Int32)), .val (.int md), .val (.ref b67), .val (.int u), .unset, .unset, .unset] [(.ref b163), (.ref b159), (.ref b155), (.ref b67), (.ref b147), (.ref b147)])) rfl (by rw [hml]; rfl) (a := b147) (argsL := [(.ref b67), (.ref b155), (.ref b159), (.ref b163)]) (rest := [(.ref b147)]) (lenOf pd_3 rfl) rfl (by show 2 * 0 + _ ≤ _; exact Nat.le_of_eq rfl) (hb hby at_165) rfl e163 (by decide) (by decide) (fun v165 T165 L165 X165 hQ165 => ?_)
          obtain ⟨rfl, M165, K165, E165, F165⟩ := hQ165
          have N165 := Fr.app N105 M165
          have Z165 : n0 ≤ T165.heap.size := Nat.le_trans Z163 K165.1
          have V165 := ((((V105.ext E147).ext E155).ext E159).ext E163).keep K165 (ninS nr nin0)
          show own_Go p e below _ T165 (mkF m 168 #[.val (.int p1), .val (.int p2), .val (.int p3), .val (.int p4), .val (.int p5), .val (.int x0), .val (.int x2), .val (.int x1), .val (.int (3 : Int32)), .val (.int md), .val (.ref b67), .val (.int u), .unset, .unset, .unset] [(.ref b147)])
          refine own_st (fun t k => XS.astore X165.here hx rfl (hb hby at_168) rfl rfl (l' := #[.val (.int p1), .val (.int p2), .val (.int p3), .val (.int p4), .val (.int p5), .val (.int x0), .val (.int x2), .val (.int x1), .val (.int (3 : Int32)), .val (.int md), .val (.ref b67), .val (.int u), .val (.ref b147), .unset, .unset]) rfl k) ?_
          show own_Go p e below _ T165 (mkF m 170 #[.val (.int p1), .val (.int p2), .val (.int p3), .val (.int p4), .val (.int p5), .val (.int x0), .val (.int x2), .val (.int x1), .val (.int (3 : Int32)), .val (.int md), .val (.ref b67), .val (.int u), .val (.ref b147), .unset, .unset] [])
          refine own_st (fun t k => XS.aload X165.here hx rfl (hb hby at_170) rfl rfl k) ?_
          show own_Go p e below _ T165 (mkF m 172 #[.val (.int p1), .val (.int p2), .val (.int p3), .val (.int p4), .val (.int p5), .val (.int x0), .val (.int x2), .val (.int x1), .val (.int (3 : Int32)), .val (.int md), .val (.ref b67), .val (.int u), .val (.ref b147), .unset, .unset] [(.ref b147)])
          refine own_st (fun t k => XS.iload X165.here hx rfl (hb hby at_172) rfl  k) ?_
          show own_Go p e below _ T165 (mkF m 174 #[.val (.int p1), .val (.int p2), .val (.int p3), .val (.int p4), .val (.int p5), .val (.int x0), .val (.int x2), .val (.int x1), .val (.int (3 : Int32)), .val (.int md), .val (.ref b67), .val (.int u), .val (.ref b147), .unset, .unset] [(.int u), (.ref b147)])
          refine own_callV X165 hx hZ (y := (⟨"com/example/rank3/rank3/text/Postings", "indexOf", "(I)I"⟩ : MethodName)) (W := 0) (kc := 0) (ks := 0) hown (hw _ (List.mem_of_getElem? (i := 28) rfl)) (hw _ (List.mem_of_getElem? (i := 29) rfl)) (hw _ (List.mem_of_getElem? (i := 31) rfl)) (hw _ (List.mem_of_getElem? (i := 30) rfl)) (own_back (W := 0) (rm_ix3 l Z a0 hw [] b147 b67 k67 x0 x1 x2 u T165.heap n0 Z165 F165 V165 h01 h12) hZ (hw _ (List.mem_of_getElem? (i := 32) rfl)) (hw _ (List.mem_of_getElem? (i := 10) rfl)) (by decide) (by decide)) (by decide) (b := b147) E165 (g := (mkF m 174 #[.val (.int p1), .val (.int p2), .val (.int p3), .val (.int p4), .val (.int p5), .val (.int x0), .val (.int x2), .val (.int x1), .val (.int (3 : Int32)), .val (.int md), .val (.ref b67), .val (.int u), .val (.ref b147), .unset, .unset] [(.int u), (.ref b147)])) rfl (by rw [hml]; rfl) (argsL := [(.int u)]) (rest := []) (lenOf pd_4 rfl) rfl (by show 2 * 0 + _ ≤ _; exact Nat.le_of_eq rfl) (hb hby at_174) rfl rfl (by decide) (by decide) (fun v174 T174 L174 X174 hQ174 => ?_)
          obtain ⟨r, rfl, hr, M174, e174⟩ := hQ174
          have N174 := Fr.app N165 M174
          show own_Go p e below _ T174 (mkF m 177 #[.val (.int p1), .val (.int p2), .val (.int p3), .val (.int p4), .val (.int p5), .val (.int x0), .val (.int x2), .val (.int x1), .val (.int (3 : Int32)), .val (.int md), .val (.ref b67), .val (.int u), .val (.ref b147), .unset, .unset] [(.int r)])
          refine own_st (fun t k => XS.istore X174.here hx rfl (hb hby at_177) rfl (l' := #[.val (.int p1), .val (.int p2), .val (.int p3), .val (.int p4), .val (.int p5), .val (.int x0), .val (.int x2), .val (.int x1), .val (.int (3 : Int32)), .val (.int md), .val (.ref b67), .val (.int u), .val (.ref b147), .val (.int r), .unset]) rfl k) ?_
          show own_Go p e below _ T174 (mkF m 179 #[.val (.int p1), .val (.int p2), .val (.int p3), .val (.int p4), .val (.int p5), .val (.int x0), .val (.int x2), .val (.int x1), .val (.int (3 : Int32)), .val (.int md), .val (.ref b67), .val (.int u), .val (.ref b147), .val (.int r), .unset] [])
          refine own_st (fun t k => XS.iconst X174.here hx rfl (hb hby at_179) k) ?_
          show own_Go p e below _ T174 (mkF m 180 #[.val (.int p1), .val (.int p2), .val (.int p3), .val (.int p4), .val (.int p5), .val (.int x0), .val (.int x2), .val (.int x1), .val (.int (3 : Int32)), .val (.int md), .val (.ref b67), .val (.int u), .val (.ref b147), .val (.int r), .unset] [(.int (-1 : Int32))])
          refine own_st (fun t k => XS.istore X174.here hx rfl (hb hby at_180) rfl (l' := #[.val (.int p1), .val (.int p2), .val (.int p3), .val (.int p4), .val (.int p5), .val (.int x0), .val (.int x2), .val (.int x1), .val (.int (3 : Int32)), .val (.int md), .val (.ref b67), .val (.int u), .val (.ref b147), .val (.int r), .val (.int (-1 : Int32))]) rfl k) ?_
          show own_Go p e below _ T174 (mkF m 182 #[.val (.int p1), .val (.int p2), .val (.int p3), .val (.int p4), .val (.int p5), .val (.int x0), .val (.int x2), .val (.int x1), .val (.int (3 : Int32)), .val (.int md), .val (.ref b67), .val (.int u), .val (.ref b147), .val (.int r), .val (.int (-1 : Int32))] [])
          refine own_st (fun t k => XS.iload X174.here hx rfl (hb hby at_182) rfl  k) ?_
          show own_Go p e below _ T174 (mkF m 184 #[.val (.int p1), .val (.int p2), .val (.int p3), .val (.int p4), .val (.int p5), .val (.int x0), .val (.int x2), .val (.int x1), .val (.int (3 : Int32)), .val (.int md), .val (.ref b67), .val (.int u), .val (.ref b147), .val (.int r), .val (.int (-1 : Int32))] [(.int (3 : Int32))])
          rcases hr with ⟨hr, hu⟩ | ⟨hr, hu⟩ | ⟨hr, hu⟩ | ⟨hr, hu0, hu1, hu2⟩
          · subst hr
            show own_Go p e below _ T174 (mkF m 184 #[.val (.int p1), .val (.int p2), .val (.int p3), .val (.int p4), .val (.int p5), .val (.int x0), .val (.int x2), .val (.int x1), .val (.int (3 : Int32)), .val (.int md), .val (.ref b67), .val (.int u), .val (.ref b147), .val (.int (0 : Int32)), .val (.int (-1 : Int32))] [(.int (3 : Int32))])
            refine own_st (fun t k => XS.ifNo X174.here hx rfl (hb hby at_184) rfl ((if0 _ _).trans (tlt (by decide : (0 : Int32) < (3 : Int32))).2.2.2) k) ?_
            show own_Go p e below _ T174 (mkF m 187 #[.val (.int p1), .val (.int p2), .val (.int p3), .val (.int p4), .val (.int p5), .val (.int x0), .val (.int x2), .val (.int x1), .val (.int (3 : Int32)), .val (.int md), .val (.ref b67), .val (.int u), .val (.ref b147), .val (.int (0 : Int32)), .val (.int (-1 : Int32))] [])
            refine own_st (fun t k => XS.iload X174.here hx rfl (hb hby at_187) rfl  k) ?_
            show own_Go p e below _ T174 (mkF m 189 #[.val (.int p1), .val (.int p2), .val (.int p3), .val (.int p4), .val (.int p5), .val (.int x0), .val (.int x2), .val (.int x1), .val (.int (3 : Int32)), .val (.int md), .val (.ref b67), .val (.int u), .val (.ref b147), .val (.int (0 : Int32)), .val (.int (-1 : Int32))] [(.int u)])
            refine own_st (fun t k => XS.iload X174.here hx rfl (hb hby at_189) rfl  k) ?_
            show own_Go p e below _ T174 (mkF m 191 #[.val (.int p1), .val (.int p2), .val (.int p3), .val (.int p4), .val (.int p5), .val (.int x0), .val (.int x2), .val (.int x1), .val (.int (3 : Int32)), .val (.int md), .val (.ref b67), .val (.int u), .val (.ref b147), .val (.int (0 : Int32)), .val (.int (-1 : Int32))] [(.int x0), (.int u)])
            refine own_st (fun t k => XS.icmpNo X174.here hx rfl (hb hby at_191) rfl (teq hu).2 k) ?_
            show own_Go p e below _ T174 (mkF m 194 #[.val (.int p1), .val (.int p2), .val (.int p3), .val (.int p4), .val (.int p5), .val (.int x0), .val (.int x2), .val (.int x1), .val (.int (3 : Int32)), .val (.int md), .val (.ref b67), .val (.int u), .val (.ref b147), .val (.int (0 : Int32)), .val (.int (-1 : Int32))] [])
            refine own_st (fun t k => XS.iconst X174.here hx rfl (hb hby at_194) k) ?_
            show own_Go p e below _ T174 (mkF m 195 #[.val (.int p1), .val (.int p2), .val (.int p3), .val (.int p4), .val (.int p5), .val (.int x0), .val (.int x2), .val (.int x1), .val (.int (3 : Int32)), .val (.int md), .val (.ref b67), .val (.int u), .val (.ref b147), .val (.int (0 : Int32)), .val (.int (-1 : Int32))] [(.int (0 : Int32))])
            refine own_st (fun t k => XS.istore X174.here hx rfl (hb hby at_195) rfl (l' := #[.val (.int p1), .val (.int p2), .val (.int p3), .val (.int p4), .val (.int p5), .val (.int x0), .val (.int x2), .val (.int x1), .val (.int (3 : Int32)), .val (.int md), .val (.ref b67), .val (.int u), .val (.ref b147), .val (.int (0 : Int32)), .val (.int (0 : Int32))]) rfl k) ?_
            show own_Go p e below _ T174 (mkF m 197 #[.val (.int p1), .val (.int p2), .val (.int p3), .val (.int p4), .val (.int p5), .val (.int x0), .val (.int x2), .val (.int x1), .val (.int (3 : Int32)), .val (.int md), .val (.ref b67), .val (.int u), .val (.ref b147), .val (.int (0 : Int32)), .val (.int (0 : Int32))] [])
            refine own_st (fun t k => XS.iload X174.here hx rfl (hb hby at_197) rfl  k) ?_
            show own_Go p e below _ T174 (mkF m 199 #[.val (.int p1), .val (.int p2), .val (.int p3), .val (.int p4), .val (.int p5), .val (.int x0), .val (.int x2), .val (.int x1), .val (.int (3 : Int32)), .val (.int md), .val (.ref b67), .val (.int u), .val (.ref b147), .val (.int (0 : Int32)), .val (.int (0 : Int32))] [(.int (3 : Int32))])
            refine own_st (fun t k => XS.iconst X174.here hx rfl (hb hby at_199) k) ?_
            show own_Go p e below _ T174 (mkF m 200 #[.val (.int p1), .val (.int p2), .val (.int p3), .val (.int p4), .val (.int p5), .val (.int x0), .val (.int x2), .val (.int x1), .val (.int (3 : Int32)), .val (.int md), .val (.ref b67), .val (.int u), .val (.ref b147), .val (.int (0 : Int32)), .val (.int (0 : Int32))] [(.int (1 : Int32)), (.int (3 : Int32))])
            refine own_st (fun t k => XS.icmpNo X174.here hx rfl (hb hby at_200) rfl (tlt (by decide : (1 : Int32) < (3 : Int32))).2.2.2 k) ?_
            show own_Go p e below _ T174 (mkF m 203 #[.val (.int p1), .val (.int p2), .val (.int p3), .val (.int p4), .val (.int p5), .val (.int x0), .val (.int x2), .val (.int x1), .val (.int (3 : Int32)), .val (.int md), .val (.ref b67), .val (.int u), .val (.ref b147), .val (.int (0 : Int32)), .val (.int (0 : Int32))] [])
            refine own_st (fun t k => XS.iload X174.here hx rfl (hb hby at_203) rfl  k) ?_
            show own_Go p e below _ T174 (mkF m 205 #[.val (.int p1), .val (.int p2), .val (.int p3), .val (.int p4), .val (.int p5), .val (.int x0), .val (.int x2), .val (.int x1), .val (.int (3 : Int32)), .val (.int md), .val (.ref b67), .val (.int u), .val (.ref b147), .val (.int (0 : Int32)), .val (.int (0 : Int32))] [(.int u)])
            refine own_st (fun t k => XS.iload X174.here hx rfl (hb hby at_205) rfl  k) ?_
            show own_Go p e below _ T174 (mkF m 207 #[.val (.int p1), .val (.int p2), .val (.int p3), .val (.int p4), .val (.int p5), .val (.int x0), .val (.int x2), .val (.int x1), .val (.int (3 : Int32)), .val (.int md), .val (.ref b67), .val (.int u), .val (.ref b147), .val (.int (0 : Int32)), .val (.int (0 : Int32))] [(.int x1), (.int u)])
            refine own_st (fun t k => XS.icmpYes X174.here hx rfl (pc0 := 207) (pc' := 213) rfl (hb hby at_207) rfl (feq (by simp only [Int32.lt_iff_toInt_lt, ← Int32.toInt_inj] at hu h01 h12 ⊢; omega)).2 (by decide) (by decide) k) ?_
            show own_Go p e below _ T174 (mkF m 213 #[.val (.int p1), .val (.int p2), .val (.int p3), .val (.int p4), .val (.int p5), .val (.int x0), .val (.int x2), .val (.int x1), .val (.int (3 : Int32)), .val (.int md), .val (.ref b67), .val (.int u), .val (.ref b147), .val (.int (0 : Int32)), .val (.int (0 : Int32))] [])
            refine own_st (fun t k => XS.iload X174.here hx rfl (hb hby at_213) rfl  k) ?_
            show own_Go p e below _ T174 (mkF m 215 #[.val (.int p1), .val (.int p2), .val (.int p3), .val (.int p4), .val (.int p5), .val (.int x0), .val (.int x2), .val (.int x1), .val (.int (3 : Int32)), .val (.int md), .val (.ref b67), .val (.int u), .val (.ref b147), .val (.int (0 : Int32)), .val (.int (0 : Int32))] [(.int (3 : Int32))])
            refine own_st (fun t k => XS.iconst X174.here hx rfl (hb hby at_215) k) ?_
            show own_Go p e below _ T174 (mkF m 216 #[.val (.int p1), .val (.int p2), .val (.int p3), .val (.int p4), .val (.int p5), .val (.int x0), .val (.int x2), .val (.int x1), .val (.int (3 : Int32)), .val (.int md), .val (.ref b67), .val (.int u), .val (.ref b147), .val (.int (0 : Int32)), .val (.int (0 : Int32))] [(.int (2 : Int32)), (.int (3 : Int32))])
            refine own_st (fun t k => XS.icmpNo X174.here hx rfl (hb hby at_216) rfl (tlt (by decide : (2 : Int32) < (3 : Int32))).2.2.2 k) ?_
            show own_Go p e below _ T174 (mkF m 219 #[.val (.int p1), .val (.int p2), .val (.int p3), .val (.int p4), .val (.int p5), .val (.int x0), .val (.int x2), .val (.int x1), .val (.int (3 : Int32)), .val (.int md), .val (.ref b67), .val (.int u), .val (.ref b147), .val (.int (0 : Int32)), .val (.int (0 : Int32))] [])
            refine own_st (fun t k => XS.iload X174.here hx rfl (hb hby at_219) rfl  k) ?_
            show own_Go p e below _ T174 (mkF m 221 #[.val (.int p1), .val (.int p2), .val (.int p3), .val (.int p4), .val (.int p5), .val (.int x0), .val (.int x2), .val (.int x1), .val (.int (3 : Int32)), .val (.int md), .val (.ref b67), .val (.int u), .val (.ref b147), .val (.int (0 : Int32)), .val (.int (0 : Int32))] [(.int u)])
            refine own_st (fun t k => XS.iload X174.here hx rfl (hb hby at_221) rfl  k) ?_
            show own_Go p e below _ T174 (mkF m 223 #[.val (.int p1), .val (.int p2), .val (.int p3), .val (.int p4), .val (.int p5), .val (.int x0), .val (.int x2), .val (.int x1), .val (.int (3 : Int32)), .val (.int md), .val (.ref b67), .val (.int u), .val (.ref b147), .val (.int (0 : Int32)), .val (.int (0 : Int32))] [(.int x2), (.int u)])
            refine own_st (fun t k => XS.icmpYes X174.here hx rfl (pc0 := 223) (pc' := 229) rfl (hb hby at_223) rfl (feq (by simp only [Int32.lt_iff_toInt_lt, ← Int32.toInt_inj] at hu h01 h12 ⊢; omega)).2 (by decide) (by decide) k) ?_
            show own_Go p e below _ T174 (mkF m 229 #[.val (.int p1), .val (.int p2), .val (.int p3), .val (.int p4), .val (.int p5), .val (.int x0), .val (.int x2), .val (.int x1), .val (.int (3 : Int32)), .val (.int md), .val (.ref b67), .val (.int u), .val (.ref b147), .val (.int (0 : Int32)), .val (.int (0 : Int32))] [])
            refine own_st (fun t k => XS.iload X174.here hx rfl (hb hby at_229) rfl  k) ?_
            show own_Go p e below _ T174 (mkF m 231 #[.val (.int p1), .val (.int p2), .val (.int p3), .val (.int p4), .val (.int p5), .val (.int x0), .val (.int x2), .val (.int x1), .val (.int (3 : Int32)), .val (.int md), .val (.ref b67), .val (.int u), .val (.ref b147), .val (.int (0 : Int32)), .val (.int (0 : Int32))] [(.int (0 : Int32))])
            refine own_st (fun t k => XS.iload X174.here hx rfl (hb hby at_231) rfl  k) ?_
            show own_Go p e below _ T174 (mkF m 233 #[.val (.int p1), .val (.int p2), .val (.int p3), .val (.int p4), .val (.int p5), .val (.int x0), .val (.int x2), .val (.int x1), .val (.int (3 : Int32)), .val (.int md), .val (.ref b67), .val (.int u), .val (.ref b147), .val (.int (0 : Int32)), .val (.int (0 : Int32))] [(.int (0 : Int32)), (.int (0 : Int32))])
            refine own_st (fun t k => XS.icmpNo X174.here hx rfl (hb hby at_233) rfl (teq (rfl : (0 : Int32) = (0 : Int32))).2 k) ?_
            show own_Go p e below _ T174 (mkF m 236 #[.val (.int p1), .val (.int p2), .val (.int p3), .val (.int p4), .val (.int p5), .val (.int x0), .val (.int x2), .val (.int x1), .val (.int (3 : Int32)), .val (.int md), .val (.ref b67), .val (.int u), .val (.ref b147), .val (.int (0 : Int32)), .val (.int (0 : Int32))] [])
            refine own_st (fun t k => XS.iconst X174.here hx rfl (hb hby at_236) k) ?_
            show own_Go p e below _ T174 (mkF m 237 #[.val (.int p1), .val (.int p2), .val (.int p3), .val (.int p4), .val (.int p5), .val (.int x0), .val (.int x2), .val (.int x1), .val (.int (3 : Int32)), .val (.int md), .val (.ref b67), .val (.int u), .val (.ref b147), .val (.int (0 : Int32)), .val (.int (0 : Int32))] [(.int (1 : Int32))])
            refine own_st (fun t k => XS.goto X174.here hx rfl (pc0 := 237) (pc' := 241) rfl (hb hby at_237) (by decide) (by decide) k) ?_
            show own_Go p e below _ T174 (mkF m 241 #[.val (.int p1), .val (.int p2), .val (.int p3), .val (.int p4), .val (.int p5), .val (.int x0), .val (.int x2), .val (.int x1), .val (.int (3 : Int32)), .val (.int md), .val (.ref b67), .val (.int u), .val (.ref b147), .val (.int (0 : Int32)), .val (.int (0 : Int32))] [(.int (1 : Int32))])
            refine own_retN (t := .boolean) X174 hx hlk hret (by simp) (hb hby at_241) ?_ (by decide) (by decide)
            exact ⟨rfl, N174⟩
          · subst hr
            show own_Go p e below _ T174 (mkF m 184 #[.val (.int p1), .val (.int p2), .val (.int p3), .val (.int p4), .val (.int p5), .val (.int x0), .val (.int x2), .val (.int x1), .val (.int (3 : Int32)), .val (.int md), .val (.ref b67), .val (.int u), .val (.ref b147), .val (.int (1 : Int32)), .val (.int (-1 : Int32))] [(.int (3 : Int32))])
            refine own_st (fun t k => XS.ifNo X174.here hx rfl (hb hby at_184) rfl ((if0 _ _).trans (tlt (by decide : (0 : Int32) < (3 : Int32))).2.2.2) k) ?_
            show own_Go p e below _ T174 (mkF m 187 #[.val (.int p1), .val (.int p2), .val (.int p3), .val (.int p4), .val (.int p5), .val (.int x0), .val (.int x2), .val (.int x1), .val (.int (3 : Int32)), .val (.int md), .val (.ref b67), .val (.int u), .val (.ref b147), .val (.int (1 : Int32)), .val (.int (-1 : Int32))] [])
            refine own_st (fun t k => XS.iload X174.here hx rfl (hb hby at_187) rfl  k) ?_
            show own_Go p e below _ T174 (mkF m 189 #[.val (.int p1), .val (.int p2), .val (.int p3), .val (.int p4), .val (.int p5), .val (.int x0), .val (.int x2), .val (.int x1), .val (.int (3 : Int32)), .val (.int md), .val (.ref b67), .val (.int u), .val (.ref b147), .val (.int (1 : Int32)), .val (.int (-1 : Int32))] [(.int u)])
            refine own_st (fun t k => XS.iload X174.here hx rfl (hb hby at_189) rfl  k) ?_
            show own_Go p e below _ T174 (mkF m 191 #[.val (.int p1), .val (.int p2), .val (.int p3), .val (.int p4), .val (.int p5), .val (.int x0), .val (.int x2), .val (.int x1), .val (.int (3 : Int32)), .val (.int md), .val (.ref b67), .val (.int u), .val (.ref b147), .val (.int (1 : Int32)), .val (.int (-1 : Int32))] [(.int x0), (.int u)])
            refine own_st (fun t k => XS.icmpYes X174.here hx rfl (pc0 := 191) (pc' := 197) rfl (hb hby at_191) rfl (feq (by simp only [Int32.lt_iff_toInt_lt, ← Int32.toInt_inj] at hu h01 h12 ⊢; omega)).2 (by decide) (by decide) k) ?_
            show own_Go p e below _ T174 (mkF m 197 #[.val (.int p1), .val (.int p2), .val (.int p3), .val (.int p4), .val (.int p5), .val (.int x0), .val (.int x2), .val (.int x1), .val (.int (3 : Int32)), .val (.int md), .val (.ref b67), .val (.int u), .val (.ref b147), .val (.int (1 : Int32)), .val (.int (-1 : Int32))] [])
            refine own_st (fun t k => XS.iload X174.here hx rfl (hb hby at_197) rfl  k) ?_
            show own_Go p e below _ T174 (mkF m 199 #[.val (.int p1), .val (.int p2), .val (.int p3), .val (.int p4), .val (.int p5), .val (.int x0), .val (.int x2), .val (.int x1), .val (.int (3 : Int32)), .val (.int md), .val (.ref b67), .val (.int u), .val (.ref b147), .val (.int (1 : Int32)), .val (.int (-1 : Int32))] [(.int (3 : Int32))])
            refine own_st (fun t k => XS.iconst X174.here hx rfl (hb hby at_199) k) ?_
            show own_Go p e below _ T174 (mkF m 200 #[.val (.int p1), .val (.int p2), .val (.int p3), .val (.int p4), .val (.int p5), .val (.int x0), .val (.int x2), .val (.int x1), .val (.int (3 : Int32)), .val (.int md), .val (.ref b67), .val (.int u), .val (.ref b147), .val (.int (1 : Int32)), .val (.int (-1 : Int32))] [(.int (1 : Int32)), (.int (3 : Int32))])
            refine own_st (fun t k => XS.icmpNo X174.here hx rfl (hb hby at_200) rfl (tlt (by decide : (1 : Int32) < (3 : Int32))).2.2.2 k) ?_
            show own_Go p e below _ T174 (mkF m 203 #[.val (.int p1), .val (.int p2), .val (.int p3), .val (.int p4), .val (.int p5), .val (.int x0), .val (.int x2), .val (.int x1), .val (.int (3 : Int32)), .val (.int md), .val (.ref b67), .val (.int u), .val (.ref b147), .val (.int (1 : Int32)), .val (.int (-1 : Int32))] [])
            refine own_st (fun t k => XS.iload X174.here hx rfl (hb hby at_203) rfl  k) ?_
            show own_Go p e below _ T174 (mkF m 205 #[.val (.int p1), .val (.int p2), .val (.int p3), .val (.int p4), .val (.int p5), .val (.int x0), .val (.int x2), .val (.int x1), .val (.int (3 : Int32)), .val (.int md), .val (.ref b67), .val (.int u), .val (.ref b147), .val (.int (1 : Int32)), .val (.int (-1 : Int32))] [(.int u)])
            refine own_st (fun t k => XS.iload X174.here hx rfl (hb hby at_205) rfl  k) ?_
            show own_Go p e below _ T174 (mkF m 207 #[.val (.int p1), .val (.int p2), .val (.int p3), .val (.int p4), .val (.int p5), .val (.int x0), .val (.int x2), .val (.int x1), .val (.int (3 : Int32)), .val (.int md), .val (.ref b67), .val (.int u), .val (.ref b147), .val (.int (1 : Int32)), .val (.int (-1 : Int32))] [(.int x1), (.int u)])
            refine own_st (fun t k => XS.icmpNo X174.here hx rfl (hb hby at_207) rfl (teq hu).2 k) ?_
            show own_Go p e below _ T174 (mkF m 210 #[.val (.int p1), .val (.int p2), .val (.int p3), .val (.int p4), .val (.int p5), .val (.int x0), .val (.int x2), .val (.int x1), .val (.int (3 : Int32)), .val (.int md), .val (.ref b67), .val (.int u), .val (.ref b147), .val (.int (1 : Int32)), .val (.int (-1 : Int32))] [])
            refine own_st (fun t k => XS.iconst X174.here hx rfl (hb hby at_210) k) ?_
            show own_Go p e below _ T174 (mkF m 211 #[.val (.int p1), .val (.int p2), .val (.int p3), .val (.int p4), .val (.int p5), .val (.int x0), .val (.int x2), .val (.int x1), .val (.int (3 : Int32)), .val (.int md), .val (.ref b67), .val (.int u), .val (.ref b147), .val (.int (1 : Int32)), .val (.int (-1 : Int32))] [(.int (1 : Int32))])
            refine own_st (fun t k => XS.istore X174.here hx rfl (hb hby at_211) rfl (l' := #[.val (.int p1), .val (.int p2), .val (.int p3), .val (.int p4), .val (.int p5), .val (.int x0), .val (.int x2), .val (.int x1), .val (.int (3 : Int32)), .val (.int md), .val (.ref b67), .val (.int u), .val (.ref b147), .val (.int (1 : Int32)), .val (.int (1 : Int32))]) rfl k) ?_
            show own_Go p e below _ T174 (mkF m 213 #[.val (.int p1), .val (.int p2), .val (.int p3), .val (.int p4), .val (.int p5), .val (.int x0), .val (.int x2), .val (.int x1), .val (.int (3 : Int32)), .val (.int md), .val (.ref b67), .val (.int u), .val (.ref b147), .val (.int (1 : Int32)), .val (.int (1 : Int32))] [])
            refine own_st (fun t k => XS.iload X174.here hx rfl (hb hby at_213) rfl  k) ?_
            show own_Go p e below _ T174 (mkF m 215 #[.val (.int p1), .val (.int p2), .val (.int p3), .val (.int p4), .val (.int p5), .val (.int x0), .val (.int x2), .val (.int x1), .val (.int (3 : Int32)), .val (.int md), .val (.ref b67), .val (.int u), .val (.ref b147), .val (.int (1 : Int32)), .val (.int (1 : Int32))] [(.int (3 : Int32))])
            refine own_st (fun t k => XS.iconst X174.here hx rfl (hb hby at_215) k) ?_
            show own_Go p e below _ T174 (mkF m 216 #[.val (.int p1), .val (.int p2), .val (.int p3), .val (.int p4), .val (.int p5), .val (.int x0), .val (.int x2), .val (.int x1), .val (.int (3 : Int32)), .val (.int md), .val (.ref b67), .val (.int u), .val (.ref b147), .val (.int (1 : Int32)), .val (.int (1 : Int32))] [(.int (2 : Int32)), (.int (3 : Int32))])
            refine own_st (fun t k => XS.icmpNo X174.here hx rfl (hb hby at_216) rfl (tlt (by decide : (2 : Int32) < (3 : Int32))).2.2.2 k) ?_
            show own_Go p e below _ T174 (mkF m 219 #[.val (.int p1), .val (.int p2), .val (.int p3), .val (.int p4), .val (.int p5), .val (.int x0), .val (.int x2), .val (.int x1), .val (.int (3 : Int32)), .val (.int md), .val (.ref b67), .val (.int u), .val (.ref b147), .val (.int (1 : Int32)), .val (.int (1 : Int32))] [])
            refine own_st (fun t k => XS.iload X174.here hx rfl (hb hby at_219) rfl  k) ?_
            show own_Go p e below _ T174 (mkF m 221 #[.val (.int p1), .val (.int p2), .val (.int p3), .val (.int p4), .val (.int p5), .val (.int x0), .val (.int x2), .val (.int x1), .val (.int (3 : Int32)), .val (.int md), .val (.ref b67), .val (.int u), .val (.ref b147), .val (.int (1 : Int32)), .val (.int (1 : Int32))] [(.int u)])
            refine own_st (fun t k => XS.iload X174.here hx rfl (hb hby at_221) rfl  k) ?_
            show own_Go p e below _ T174 (mkF m 223 #[.val (.int p1), .val (.int p2), .val (.int p3), .val (.int p4), .val (.int p5), .val (.int x0), .val (.int x2), .val (.int x1), .val (.int (3 : Int32)), .val (.int md), .val (.ref b67), .val (.int u), .val (.ref b147), .val (.int (1 : Int32)), .val (.int (1 : Int32))] [(.int x2), (.int u)])
            refine own_st (fun t k => XS.icmpYes X174.here hx rfl (pc0 := 223) (pc' := 229) rfl (hb hby at_223) rfl (feq (by simp only [Int32.lt_iff_toInt_lt, ← Int32.toInt_inj] at hu h01 h12 ⊢; omega)).2 (by decide) (by decide) k) ?_
            show own_Go p e below _ T174 (mkF m 229 #[.val (.int p1), .val (.int p2), .val (.int p3), .val (.int p4), .val (.int p5), .val (.int x0), .val (.int x2), .val (.int x1), .val (.int (3 : Int32)), .val (.int md), .val (.ref b67), .val (.int u), .val (.ref b147), .val (.int (1 : Int32)), .val (.int (1 : Int32))] [])
            refine own_st (fun t k => XS.iload X174.here hx rfl (hb hby at_229) rfl  k) ?_
            show own_Go p e below _ T174 (mkF m 231 #[.val (.int p1), .val (.int p2), .val (.int p3), .val (.int p4), .val (.int p5), .val (.int x0), .val (.int x2), .val (.int x1), .val (.int (3 : Int32)), .val (.int md), .val (.ref b67), .val (.int u), .val (.ref b147), .val (.int (1 : Int32)), .val (.int (1 : Int32))] [(.int (1 : Int32))])
            refine own_st (fun t k => XS.iload X174.here hx rfl (hb hby at_231) rfl  k) ?_
            show own_Go p e below _ T174 (mkF m 233 #[.val (.int p1), .val (.int p2), .val (.int p3), .val (.int p4), .val (.int p5), .val (.int x0), .val (.int x2), .val (.int x1), .val (.int (3 : Int32)), .val (.int md), .val (.ref b67), .val (.int u), .val (.ref b147), .val (.int (1 : Int32)), .val (.int (1 : Int32))] [(.int (1 : Int32)), (.int (1 : Int32))])
            refine own_st (fun t k => XS.icmpNo X174.here hx rfl (hb hby at_233) rfl (teq (rfl : (1 : Int32) = (1 : Int32))).2 k) ?_
            show own_Go p e below _ T174 (mkF m 236 #[.val (.int p1), .val (.int p2), .val (.int p3), .val (.int p4), .val (.int p5), .val (.int x0), .val (.int x2), .val (.int x1), .val (.int (3 : Int32)), .val (.int md), .val (.ref b67), .val (.int u), .val (.ref b147), .val (.int (1 : Int32)), .val (.int (1 : Int32))] [])
            refine own_st (fun t k => XS.iconst X174.here hx rfl (hb hby at_236) k) ?_
            show own_Go p e below _ T174 (mkF m 237 #[.val (.int p1), .val (.int p2), .val (.int p3), .val (.int p4), .val (.int p5), .val (.int x0), .val (.int x2), .val (.int x1), .val (.int (3 : Int32)), .val (.int md), .val (.ref b67), .val (.int u), .val (.ref b147), .val (.int (1 : Int32)), .val (.int (1 : Int32))] [(.int (1 : Int32))])
            refine own_st (fun t k => XS.goto X174.here hx rfl (pc0 := 237) (pc' := 241) rfl (hb hby at_237) (by decide) (by decide) k) ?_
            show own_Go p e below _ T174 (mkF m 241 #[.val (.int p1), .val (.int p2), .val (.int p3), .val (.int p4), .val (.int p5), .val (.int x0), .val (.int x2), .val (.int x1), .val (.int (3 : Int32)), .val (.int md), .val (.ref b67), .val (.int u), .val (.ref b147), .val (.int (1 : Int32)), .val (.int (1 : Int32))] [(.int (1 : Int32))])
            refine own_retN (t := .boolean) X174 hx hlk hret (by simp) (hb hby at_241) ?_ (by decide) (by decide)
            exact ⟨rfl, N174⟩
          · subst hr
            show own_Go p e below _ T174 (mkF m 184 #[.val (.int p1), .val (.int p2), .val (.int p3), .val (.int p4), .val (.int p5), .val (.int x0), .val (.int x2), .val (.int x1), .val (.int (3 : Int32)), .val (.int md), .val (.ref b67), .val (.int u), .val (.ref b147), .val (.int (2 : Int32)), .val (.int (-1 : Int32))] [(.int (3 : Int32))])
            refine own_st (fun t k => XS.ifNo X174.here hx rfl (hb hby at_184) rfl ((if0 _ _).trans (tlt (by decide : (0 : Int32) < (3 : Int32))).2.2.2) k) ?_
            show own_Go p e below _ T174 (mkF m 187 #[.val (.int p1), .val (.int p2), .val (.int p3), .val (.int p4), .val (.int p5), .val (.int x0), .val (.int x2), .val (.int x1), .val (.int (3 : Int32)), .val (.int md), .val (.ref b67), .val (.int u), .val (.ref b147), .val (.int (2 : Int32)), .val (.int (-1 : Int32))] [])
            refine own_st (fun t k => XS.iload X174.here hx rfl (hb hby at_187) rfl  k) ?_
            show own_Go p e below _ T174 (mkF m 189 #[.val (.int p1), .val (.int p2), .val (.int p3), .val (.int p4), .val (.int p5), .val (.int x0), .val (.int x2), .val (.int x1), .val (.int (3 : Int32)), .val (.int md), .val (.ref b67), .val (.int u), .val (.ref b147), .val (.int (2 : Int32)), .val (.int (-1 : Int32))] [(.int u)])
            refine own_st (fun t k => XS.iload X174.here hx rfl (hb hby at_189) rfl  k) ?_
            show own_Go p e below _ T174 (mkF m 191 #[.val (.int p1), .val (.int p2), .val (.int p3), .val (.int p4), .val (.int p5), .val (.int x0), .val (.int x2), .val (.int x1), .val (.int (3 : Int32)), .val (.int md), .val (.ref b67), .val (.int u), .val (.ref b147), .val (.int (2 : Int32)), .val (.int (-1 : Int32))] [(.int x0), (.int u)])
            refine own_st (fun t k => XS.icmpYes X174.here hx rfl (pc0 := 191) (pc' := 197) rfl (hb hby at_191) rfl (feq (by simp only [Int32.lt_iff_toInt_lt, ← Int32.toInt_inj] at hu h01 h12 ⊢; omega)).2 (by decide) (by decide) k) ?_
            show own_Go p e below _ T174 (mkF m 197 #[.val (.int p1), .val (.int p2), .val (.int p3), .val (.int p4), .val (.int p5), .val (.int x0), .val (.int x2), .val (.int x1), .val (.int (3 : Int32)), .val (.int md), .val (.ref b67), .val (.int u), .val (.ref b147), .val (.int (2 : Int32)), .val (.int (-1 : Int32))] [])
            refine own_st (fun t k => XS.iload X174.here hx rfl (hb hby at_197) rfl  k) ?_
            show own_Go p e below _ T174 (mkF m 199 #[.val (.int p1), .val (.int p2), .val (.int p3), .val (.int p4), .val (.int p5), .val (.int x0), .val (.int x2), .val (.int x1), .val (.int (3 : Int32)), .val (.int md), .val (.ref b67), .val (.int u), .val (.ref b147), .val (.int (2 : Int32)), .val (.int (-1 : Int32))] [(.int (3 : Int32))])
            refine own_st (fun t k => XS.iconst X174.here hx rfl (hb hby at_199) k) ?_
            show own_Go p e below _ T174 (mkF m 200 #[.val (.int p1), .val (.int p2), .val (.int p3), .val (.int p4), .val (.int p5), .val (.int x0), .val (.int x2), .val (.int x1), .val (.int (3 : Int32)), .val (.int md), .val (.ref b67), .val (.int u), .val (.ref b147), .val (.int (2 : Int32)), .val (.int (-1 : Int32))] [(.int (1 : Int32)), (.int (3 : Int32))])
            refine own_st (fun t k => XS.icmpNo X174.here hx rfl (hb hby at_200) rfl (tlt (by decide : (1 : Int32) < (3 : Int32))).2.2.2 k) ?_
            show own_Go p e below _ T174 (mkF m 203 #[.val (.int p1), .val (.int p2), .val (.int p3), .val (.int p4), .val (.int p5), .val (.int x0), .val (.int x2), .val (.int x1), .val (.int (3 : Int32)), .val (.int md), .val (.ref b67), .val (.int u), .val (.ref b147), .val (.int (2 : Int32)), .val (.int (-1 : Int32))] [])
            refine own_st (fun t k => XS.iload X174.here hx rfl (hb hby at_203) rfl  k) ?_
            show own_Go p e below _ T174 (mkF m 205 #[.val (.int p1), .val (.int p2), .val (.int p3), .val (.int p4), .val (.int p5), .val (.int x0), .val (.int x2), .val (.int x1), .val (.int (3 : Int32)), .val (.int md), .val (.ref b67), .val (.int u), .val (.ref b147), .val (.int (2 : Int32)), .val (.int (-1 : Int32))] [(.int u)])
            refine own_st (fun t k => XS.iload X174.here hx rfl (hb hby at_205) rfl  k) ?_
            show own_Go p e below _ T174 (mkF m 207 #[.val (.int p1), .val (.int p2), .val (.int p3), .val (.int p4), .val (.int p5), .val (.int x0), .val (.int x2), .val (.int x1), .val (.int (3 : Int32)), .val (.int md), .val (.ref b67), .val (.int u), .val (.ref b147), .val (.int (2 : Int32)), .val (.int (-1 : Int32))] [(.int x1), (.int u)])
            refine own_st (fun t k => XS.icmpYes X174.here hx rfl (pc0 := 207) (pc' := 213) rfl (hb hby at_207) rfl (feq (by simp only [Int32.lt_iff_toInt_lt, ← Int32.toInt_inj] at hu h01 h12 ⊢; omega)).2 (by decide) (by decide) k) ?_
            show own_Go p e below _ T174 (mkF m 213 #[.val (.int p1), .val (.int p2), .val (.int p3), .val (.int p4), .val (.int p5), .val (.int x0), .val (.int x2), .val (.int x1), .val (.int (3 : Int32)), .val (.int md), .val (.ref b67), .val (.int u), .val (.ref b147), .val (.int (2 : Int32)), .val (.int (-1 : Int32))] [])
            refine own_st (fun t k => XS.iload X174.here hx rfl (hb hby at_213) rfl  k) ?_
            show own_Go p e below _ T174 (mkF m 215 #[.val (.int p1), .val (.int p2), .val (.int p3), .val (.int p4), .val (.int p5), .val (.int x0), .val (.int x2), .val (.int x1), .val (.int (3 : Int32)), .val (.int md), .val (.ref b67), .val (.int u), .val (.ref b147), .val (.int (2 : Int32)), .val (.int (-1 : Int32))] [(.int (3 : Int32))])
            refine own_st (fun t k => XS.iconst X174.here hx rfl (hb hby at_215) k) ?_
            show own_Go p e below _ T174 (mkF m 216 #[.val (.int p1), .val (.int p2), .val (.int p3), .val (.int p4), .val (.int p5), .val (.int x0), .val (.int x2), .val (.int x1), .val (.int (3 : Int32)), .val (.int md), .val (.ref b67), .val (.int u), .val (.ref b147), .val (.int (2 : Int32)), .val (.int (-1 : Int32))] [(.int (2 : Int32)), (.int (3 : Int32))])
            refine own_st (fun t k => XS.icmpNo X174.here hx rfl (hb hby at_216) rfl (tlt (by decide : (2 : Int32) < (3 : Int32))).2.2.2 k) ?_
            show own_Go p e below _ T174 (mkF m 219 #[.val (.int p1), .val (.int p2), .val (.int p3), .val (.int p4), .val (.int p5), .val (.int x0), .val (.int x2), .val (.int x1), .val (.int (3 : Int32)), .val (.int md), .val (.ref b67), .val (.int u), .val (.ref b147), .val (.int (2 : Int32)), .val (.int (-1 : Int32))] [])
            refine own_st (fun t k => XS.iload X174.here hx rfl (hb hby at_219) rfl  k) ?_
            show own_Go p e below _ T174 (mkF m 221 #[.val (.int p1), .val (.int p2), .val (.int p3), .val (.int p4), .val (.int p5), .val (.int x0), .val (.int x2), .val (.int x1), .val (.int (3 : Int32)), .val (.int md), .val (.ref b67), .val (.int u), .val (.ref b147), .val (.int (2 : Int32)), .val (.int (-1 : Int32))] [(.int u)])
            refine own_st (fun t k => XS.iload X174.here hx rfl (hb hby at_221) rfl  k) ?_
            show own_Go p e below _ T174 (mkF m 223 #[.val (.int p1), .val (.int p2), .val (.int p3), .val (.int p4), .val (.int p5), .val (.int x0), .val (.int x2), .val (.int x1), .val (.int (3 : Int32)), .val (.int md), .val (.ref b67), .val (.int u), .val (.ref b147), .val (.int (2 : Int32)), .val (.int (-1 : Int32))] [(.int x2), (.int u)])
            refine own_st (fun t k => XS.icmpNo X174.here hx rfl (hb hby at_223) rfl (teq hu).2 k) ?_
            show own_Go p e below _ T174 (mkF m 226 #[.val (.int p1), .val (.int p2), .val (.int p3), .val (.int p4), .val (.int p5), .val (.int x0), .val (.int x2), .val (.int x1), .val (.int (3 : Int32)), .val (.int md), .val (.ref b67), .val (.int u), .val (.ref b147), .val (.int (2 : Int32)), .val (.int (-1 : Int32))] [])
            refine own_st (fun t k => XS.iconst X174.here hx rfl (hb hby at_226) k) ?_
            show own_Go p e below _ T174 (mkF m 227 #[.val (.int p1), .val (.int p2), .val (.int p3), .val (.int p4), .val (.int p5), .val (.int x0), .val (.int x2), .val (.int x1), .val (.int (3 : Int32)), .val (.int md), .val (.ref b67), .val (.int u), .val (.ref b147), .val (.int (2 : Int32)), .val (.int (-1 : Int32))] [(.int (2 : Int32))])
            refine own_st (fun t k => XS.istore X174.here hx rfl (hb hby at_227) rfl (l' := #[.val (.int p1), .val (.int p2), .val (.int p3), .val (.int p4), .val (.int p5), .val (.int x0), .val (.int x2), .val (.int x1), .val (.int (3 : Int32)), .val (.int md), .val (.ref b67), .val (.int u), .val (.ref b147), .val (.int (2 : Int32)), .val (.int (2 : Int32))]) rfl k) ?_
            show own_Go p e below _ T174 (mkF m 229 #[.val (.int p1), .val (.int p2), .val (.int p3), .val (.int p4), .val (.int p5), .val (.int x0), .val (.int x2), .val (.int x1), .val (.int (3 : Int32)), .val (.int md), .val (.ref b67), .val (.int u), .val (.ref b147), .val (.int (2 : Int32)), .val (.int (2 : Int32))] [])
            refine own_st (fun t k => XS.iload X174.here hx rfl (hb hby at_229) rfl  k) ?_
            show own_Go p e below _ T174 (mkF m 231 #[.val (.int p1), .val (.int p2), .val (.int p3), .val (.int p4), .val (.int p5), .val (.int x0), .val (.int x2), .val (.int x1), .val (.int (3 : Int32)), .val (.int md), .val (.ref b67), .val (.int u), .val (.ref b147), .val (.int (2 : Int32)), .val (.int (2 : Int32))] [(.int (2 : Int32))])
            refine own_st (fun t k => XS.iload X174.here hx rfl (hb hby at_231) rfl  k) ?_
            show own_Go p e below _ T174 (mkF m 233 #[.val (.int p1), .val (.int p2), .val (.int p3), .val (.int p4), .val (.int p5), .val (.int x0), .val (.int x2), .val (.int x1), .val (.int (3 : Int32)), .val (.int md), .val (.ref b67), .val (.int u), .val (.ref b147), .val (.int (2 : Int32)), .val (.int (2 : Int32))] [(.int (2 : Int32)), (.int (2 : Int32))])
            refine own_st (fun t k => XS.icmpNo X174.here hx rfl (hb hby at_233) rfl (teq (rfl : (2 : Int32) = (2 : Int32))).2 k) ?_
            show own_Go p e below _ T174 (mkF m 236 #[.val (.int p1), .val (.int p2), .val (.int p3), .val (.int p4), .val (.int p5), .val (.int x0), .val (.int x2), .val (.int x1), .val (.int (3 : Int32)), .val (.int md), .val (.ref b67), .val (.int u), .val (.ref b147), .val (.int (2 : Int32)), .val (.int (2 : Int32))] [])
            refine own_st (fun t k => XS.iconst X174.here hx rfl (hb hby at_236) k) ?_
            show own_Go p e below _ T174 (mkF m 237 #[.val (.int p1), .val (.int p2), .val (.int p3), .val (.int p4), .val (.int p5), .val (.int x0), .val (.int x2), .val (.int x1), .val (.int (3 : Int32)), .val (.int md), .val (.ref b67), .val (.int u), .val (.ref b147), .val (.int (2 : Int32)), .val (.int (2 : Int32))] [(.int (1 : Int32))])
            refine own_st (fun t k => XS.goto X174.here hx rfl (pc0 := 237) (pc' := 241) rfl (hb hby at_237) (by decide) (by decide) k) ?_
            show own_Go p e below _ T174 (mkF m 241 #[.val (.int p1), .val (.int p2), .val (.int p3), .val (.int p4), .val (.int p5), .val (.int x0), .val (.int x2), .val (.int x1), .val (.int (3 : Int32)), .val (.int md), .val (.ref b67), .val (.int u), .val (.ref b147), .val (.int (2 : Int32)), .val (.int (2 : Int32))] [(.int (1 : Int32))])
            refine own_retN (t := .boolean) X174 hx hlk hret (by simp) (hb hby at_241) ?_ (by decide) (by decide)
            exact ⟨rfl, N174⟩
          · subst hr
            show own_Go p e below _ T174 (mkF m 184 #[.val (.int p1), .val (.int p2), .val (.int p3), .val (.int p4), .val (.int p5), .val (.int x0), .val (.int x2), .val (.int x1), .val (.int (3 : Int32)), .val (.int md), .val (.ref b67), .val (.int u), .val (.ref b147), .val (.int (-1 : Int32)), .val (.int (-1 : Int32))] [(.int (3 : Int32))])
            refine own_st (fun t k => XS.ifNo X174.here hx rfl (hb hby at_184) rfl ((if0 _ _).trans (tlt (by decide : (0 : Int32) < (3 : Int32))).2.2.2) k) ?_
            show own_Go p e below _ T174 (mkF m 187 #[.val (.int p1), .val (.int p2), .val (.int p3), .val (.int p4), .val (.int p5), .val (.int x0), .val (.int x2), .val (.int x1), .val (.int (3 : Int32)), .val (.int md), .val (.ref b67), .val (.int u), .val (.ref b147), .val (.int (-1 : Int32)), .val (.int (-1 : Int32))] [])
            refine own_st (fun t k => XS.iload X174.here hx rfl (hb hby at_187) rfl  k) ?_
            show own_Go p e below _ T174 (mkF m 189 #[.val (.int p1), .val (.int p2), .val (.int p3), .val (.int p4), .val (.int p5), .val (.int x0), .val (.int x2), .val (.int x1), .val (.int (3 : Int32)), .val (.int md), .val (.ref b67), .val (.int u), .val (.ref b147), .val (.int (-1 : Int32)), .val (.int (-1 : Int32))] [(.int u)])
            refine own_st (fun t k => XS.iload X174.here hx rfl (hb hby at_189) rfl  k) ?_
            show own_Go p e below _ T174 (mkF m 191 #[.val (.int p1), .val (.int p2), .val (.int p3), .val (.int p4), .val (.int p5), .val (.int x0), .val (.int x2), .val (.int x1), .val (.int (3 : Int32)), .val (.int md), .val (.ref b67), .val (.int u), .val (.ref b147), .val (.int (-1 : Int32)), .val (.int (-1 : Int32))] [(.int x0), (.int u)])
            refine own_st (fun t k => XS.icmpYes X174.here hx rfl (pc0 := 191) (pc' := 197) rfl (hb hby at_191) rfl (feq hu0).2 (by decide) (by decide) k) ?_
            show own_Go p e below _ T174 (mkF m 197 #[.val (.int p1), .val (.int p2), .val (.int p3), .val (.int p4), .val (.int p5), .val (.int x0), .val (.int x2), .val (.int x1), .val (.int (3 : Int32)), .val (.int md), .val (.ref b67), .val (.int u), .val (.ref b147), .val (.int (-1 : Int32)), .val (.int (-1 : Int32))] [])
            refine own_st (fun t k => XS.iload X174.here hx rfl (hb hby at_197) rfl  k) ?_
            show own_Go p e below _ T174 (mkF m 199 #[.val (.int p1), .val (.int p2), .val (.int p3), .val (.int p4), .val (.int p5), .val (.int x0), .val (.int x2), .val (.int x1), .val (.int (3 : Int32)), .val (.int md), .val (.ref b67), .val (.int u), .val (.ref b147), .val (.int (-1 : Int32)), .val (.int (-1 : Int32))] [(.int (3 : Int32))])
            refine own_st (fun t k => XS.iconst X174.here hx rfl (hb hby at_199) k) ?_
            show own_Go p e below _ T174 (mkF m 200 #[.val (.int p1), .val (.int p2), .val (.int p3), .val (.int p4), .val (.int p5), .val (.int x0), .val (.int x2), .val (.int x1), .val (.int (3 : Int32)), .val (.int md), .val (.ref b67), .val (.int u), .val (.ref b147), .val (.int (-1 : Int32)), .val (.int (-1 : Int32))] [(.int (1 : Int32)), (.int (3 : Int32))])
            refine own_st (fun t k => XS.icmpNo X174.here hx rfl (hb hby at_200) rfl (tlt (by decide : (1 : Int32) < (3 : Int32))).2.2.2 k) ?_
            show own_Go p e below _ T174 (mkF m 203 #[.val (.int p1), .val (.int p2), .val (.int p3), .val (.int p4), .val (.int p5), .val (.int x0), .val (.int x2), .val (.int x1), .val (.int (3 : Int32)), .val (.int md), .val (.ref b67), .val (.int u), .val (.ref b147), .val (.int (-1 : Int32)), .val (.int (-1 : Int32))] [])
            refine own_st (fun t k => XS.iload X174.here hx rfl (hb hby at_203) rfl  k) ?_
            show own_Go p e below _ T174 (mkF m 205 #[.val (.int p1), .val (.int p2), .val (.int p3), .val (.int p4), .val (.int p5), .val (.int x0), .val (.int x2), .val (.int x1), .val (.int (3 : Int32)), .val (.int md), .val (.ref b67), .val (.int u), .val (.ref b147), .val (.int (-1 : Int32)), .val (.int (-1 : Int32))] [(.int u)])
            refine own_st (fun t k => XS.iload X174.here hx rfl (hb hby at_205) rfl  k) ?_
            show own_Go p e below _ T174 (mkF m 207 #[.val (.int p1), .val (.int p2), .val (.int p3), .val (.int p4), .val (.int p5), .val (.int x0), .val (.int x2), .val (.int x1), .val (.int (3 : Int32)), .val (.int md), .val (.ref b67), .val (.int u), .val (.ref b147), .val (.int (-1 : Int32)), .val (.int (-1 : Int32))] [(.int x1), (.int u)])
            refine own_st (fun t k => XS.icmpYes X174.here hx rfl (pc0 := 207) (pc' := 213) rfl (hb hby at_207) rfl (feq hu1).2 (by decide) (by decide) k) ?_
            show own_Go p e below _ T174 (mkF m 213 #[.val (.int p1), .val (.int p2), .val (.int p3), .val (.int p4), .val (.int p5), .val (.int x0), .val (.int x2), .val (.int x1), .val (.int (3 : Int32)), .val (.int md), .val (.ref b67), .val (.int u), .val (.ref b147), .val (.int (-1 : Int32)), .val (.int (-1 : Int32))] [])
            refine own_st (fun t k => XS.iload X174.here hx rfl (hb hby at_213) rfl  k) ?_
            show own_Go p e below _ T174 (mkF m 215 #[.val (.int p1), .val (.int p2), .val (.int p3), .val (.int p4), .val (.int p5), .val (.int x0), .val (.int x2), .val (.int x1), .val (.int (3 : Int32)), .val (.int md), .val (.ref b67), .val (.int u), .val (.ref b147), .val (.int (-1 : Int32)), .val (.int (-1 : Int32))] [(.int (3 : Int32))])
            refine own_st (fun t k => XS.iconst X174.here hx rfl (hb hby at_215) k) ?_
            show own_Go p e below _ T174 (mkF m 216 #[.val (.int p1), .val (.int p2), .val (.int p3), .val (.int p4), .val (.int p5), .val (.int x0), .val (.int x2), .val (.int x1), .val (.int (3 : Int32)), .val (.int md), .val (.ref b67), .val (.int u), .val (.ref b147), .val (.int (-1 : Int32)), .val (.int (-1 : Int32))] [(.int (2 : Int32)), (.int (3 : Int32))])
            refine own_st (fun t k => XS.icmpNo X174.here hx rfl (hb hby at_216) rfl (tlt (by decide : (2 : Int32) < (3 : Int32))).2.2.2 k) ?_
            show own_Go p e below _ T174 (mkF m 219 #[.val (.int p1), .val (.int p2), .val (.int p3), .val (.int p4), .val (.int p5), .val (.int x0), .val (.int x2), .val (.int x1), .val (.int (3 : Int32)), .val (.int md), .val (.ref b67), .val (.int u), .val (.ref b147), .val (.int (-1 : Int32)), .val (.int (-1 : Int32))] [])
            refine own_st (fun t k => XS.iload X174.here hx rfl (hb hby at_219) rfl  k) ?_
            show own_Go p e below _ T174 (mkF m 221 #[.val (.int p1), .val (.int p2), .val (.int p3), .val (.int p4), .val (.int p5), .val (.int x0), .val (.int x2), .val (.int x1), .val (.int (3 : Int32)), .val (.int md), .val (.ref b67), .val (.int u), .val (.ref b147), .val (.int (-1 : Int32)), .val (.int (-1 : Int32))] [(.int u)])
            refine own_st (fun t k => XS.iload X174.here hx rfl (hb hby at_221) rfl  k) ?_
            show own_Go p e below _ T174 (mkF m 223 #[.val (.int p1), .val (.int p2), .val (.int p3), .val (.int p4), .val (.int p5), .val (.int x0), .val (.int x2), .val (.int x1), .val (.int (3 : Int32)), .val (.int md), .val (.ref b67), .val (.int u), .val (.ref b147), .val (.int (-1 : Int32)), .val (.int (-1 : Int32))] [(.int x2), (.int u)])
            refine own_st (fun t k => XS.icmpYes X174.here hx rfl (pc0 := 223) (pc' := 229) rfl (hb hby at_223) rfl (feq hu2).2 (by decide) (by decide) k) ?_
            show own_Go p e below _ T174 (mkF m 229 #[.val (.int p1), .val (.int p2), .val (.int p3), .val (.int p4), .val (.int p5), .val (.int x0), .val (.int x2), .val (.int x1), .val (.int (3 : Int32)), .val (.int md), .val (.ref b67), .val (.int u), .val (.ref b147), .val (.int (-1 : Int32)), .val (.int (-1 : Int32))] [])
            refine own_st (fun t k => XS.iload X174.here hx rfl (hb hby at_229) rfl  k) ?_
            show own_Go p e below _ T174 (mkF m 231 #[.val (.int p1), .val (.int p2), .val (.int p3), .val (.int p4), .val (.int p5), .val (.int x0), .val (.int x2), .val (.int x1), .val (.int (3 : Int32)), .val (.int md), .val (.ref b67), .val (.int u), .val (.ref b147), .val (.int (-1 : Int32)), .val (.int (-1 : Int32))] [(.int (-1 : Int32))])
            refine own_st (fun t k => XS.iload X174.here hx rfl (hb hby at_231) rfl  k) ?_
            show own_Go p e below _ T174 (mkF m 233 #[.val (.int p1), .val (.int p2), .val (.int p3), .val (.int p4), .val (.int p5), .val (.int x0), .val (.int x2), .val (.int x1), .val (.int (3 : Int32)), .val (.int md), .val (.ref b67), .val (.int u), .val (.ref b147), .val (.int (-1 : Int32)), .val (.int (-1 : Int32))] [(.int (-1 : Int32)), (.int (-1 : Int32))])
            refine own_st (fun t k => XS.icmpNo X174.here hx rfl (hb hby at_233) rfl (teq (rfl : (-1 : Int32) = (-1 : Int32))).2 k) ?_
            show own_Go p e below _ T174 (mkF m 236 #[.val (.int p1), .val (.int p2), .val (.int p3), .val (.int p4), .val (.int p5), .val (.int x0), .val (.int x2), .val (.int x1), .val (.int (3 : Int32)), .val (.int md), .val (.ref b67), .val (.int u), .val (.ref b147), .val (.int (-1 : Int32)), .val (.int (-1 : Int32))] [])
            refine own_st (fun t k => XS.iconst X174.here hx rfl (hb hby at_236) k) ?_
            show own_Go p e below _ T174 (mkF m 237 #[.val (.int p1), .val (.int p2), .val (.int p3), .val (.int p4), .val (.int p5), .val (.int x0), .val (.int x2), .val (.int x1), .val (.int (3 : Int32)), .val (.int md), .val (.ref b67), .val (.int u), .val (.ref b147), .val (.int (-1 : Int32)), .val (.int (-1 : Int32))] [(.int (1 : Int32))])
            refine own_st (fun t k => XS.goto X174.here hx rfl (pc0 := 237) (pc' := 241) rfl (hb hby at_237) (by decide) (by decide) k) ?_
            show own_Go p e below _ T174 (mkF m 241 #[.val (.int p1), .val (.int p2), .val (.int p3), .val (.int p4), .val (.int p5), .val (.int x0), .val (.int x2), .val (.int x1), .val (.int (3 : Int32)), .val (.int md), .val (.ref b67), .val (.int u), .val (.ref b147), .val (.int (-1 : Int32)), .val (.int (-1 : Int32))] [(.int (1 : Int32))])
            refine own_retN (t := .boolean) X174 hx hlk hret (by simp) (hb hby at_241) ?_ (by decide) (by decide)
            exact ⟨rfl, N174⟩
        by_cases hm0 : md = (0 : Int32)
        · refine own_st (fun t k => XS.ifNo X105.here hx rfl (hb hby at_108) rfl ((if0 _ _).trans (teq hm0).2) k) ?_
          show own_Go p e below _ T105 (mkF m 111 #[.val (.int p1), .val (.int p2), .val (.int p3), .val (.int p4), .val (.int p5), .val (.int x0), .val (.int x2), .val (.int x1), .val (.int (3 : Int32)), .val (.int md), .val (.ref b67), .unset, .unset, .unset, .unset] [])
          refine own_st (fun t k => XS.iload X105.here hx rfl (hb hby at_111) rfl  k) ?_
          show own_Go p e below _ T105 (mkF m 113 #[.val (.int p1), .val (.int p2), .val (.int p3), .val (.int p4), .val (.int p5), .val (.int x0), .val (.int x2), .val (.int x1), .val (.int (3 : Int32)), .val (.int md), .val (.ref b67), .unset, .unset, .unset, .unset] [(.int x0)])
          refine own_st (fun t k => XS.istore X105.here hx rfl (hb hby at_113) rfl (l' := #[.val (.int p1), .val (.int p2), .val (.int p3), .val (.int p4), .val (.int p5), .val (.int x0), .val (.int x2), .val (.int x1), .val (.int (3 : Int32)), .val (.int md), .val (.ref b67), .val (.int x0), .unset, .unset, .unset]) rfl k) ?_
          show own_Go p e below _ T105 (mkF m 115 #[.val (.int p1), .val (.int p2), .val (.int p3), .val (.int p4), .val (.int p5), .val (.int x0), .val (.int x2), .val (.int x1), .val (.int (3 : Int32)), .val (.int md), .val (.ref b67), .val (.int x0), .unset, .unset, .unset] [])
          refine own_st (fun t k => XS.goto X105.here hx rfl (pc0 := 115) (pc' := 147) rfl (hb hby at_115) (by decide) (by decide) k) ?_
          show own_Go p e below _ T105 (mkF m 147 #[.val (.int p1), .val (.int p2), .val (.int p3), .val (.int p4), .val (.int p5), .val (.int x0), .val (.int x2), .val (.int x1), .val (.int (3 : Int32)), .val (.int md), .val (.ref b67), .val (.int x0), .unset, .unset, .unset] [])
          exact tail _
        · refine own_st (fun t k => XS.ifYes X105.here hx rfl (pc0 := 108) (pc' := 118) rfl (hb hby at_108) rfl ((if0 _ _).trans (feq hm0).2) (by decide) (by decide) k) ?_
          show own_Go p e below _ T105 (mkF m 118 #[.val (.int p1), .val (.int p2), .val (.int p3), .val (.int p4), .val (.int p5), .val (.int x0), .val (.int x2), .val (.int x1), .val (.int (3 : Int32)), .val (.int md), .val (.ref b67), .unset, .unset, .unset, .unset] [])
          refine own_st (fun t k => XS.iload X105.here hx rfl (hb hby at_118) rfl  k) ?_
          show own_Go p e below _ T105 (mkF m 120 #[.val (.int p1), .val (.int p2), .val (.int p3), .val (.int p4), .val (.int p5), .val (.int x0), .val (.int x2), .val (.int x1), .val (.int (3 : Int32)), .val (.int md), .val (.ref b67), .unset, .unset, .unset, .unset] [(.int md)])
          refine own_st (fun t k => XS.iconst X105.here hx rfl (hb hby at_120) k) ?_
          show own_Go p e below _ T105 (mkF m 121 #[.val (.int p1), .val (.int p2), .val (.int p3), .val (.int p4), .val (.int p5), .val (.int x0), .val (.int x2), .val (.int x1), .val (.int (3 : Int32)), .val (.int md), .val (.ref b67), .unset, .unset, .unset, .unset] [(.int (1 : Int32)), (.int md)])
          by_cases hm1 : md = (1 : Int32)
          · refine own_st (fun t k => XS.icmpNo X105.here hx rfl (hb hby at_121) rfl (teq hm1).2 k) ?_
            show own_Go p e below _ T105 (mkF m 124 #[.val (.int p1), .val (.int p2), .val (.int p3), .val (.int p4), .val (.int p5), .val (.int x0), .val (.int x2), .val (.int x1), .val (.int (3 : Int32)), .val (.int md), .val (.ref b67), .unset, .unset, .unset, .unset] [])
            refine own_st (fun t k => XS.iload X105.here hx rfl (hb hby at_124) rfl  k) ?_
            show own_Go p e below _ T105 (mkF m 126 #[.val (.int p1), .val (.int p2), .val (.int p3), .val (.int p4), .val (.int p5), .val (.int x0), .val (.int x2), .val (.int x1), .val (.int (3 : Int32)), .val (.int md), .val (.ref b67), .unset, .unset, .unset, .unset] [(.int x1)])
            refine own_st (fun t k => XS.istore X105.here hx rfl (hb hby at_126) rfl (l' := #[.val (.int p1), .val (.int p2), .val (.int p3), .val (.int p4), .val (.int p5), .val (.int x0), .val (.int x2), .val (.int x1), .val (.int (3 : Int32)), .val (.int md), .val (.ref b67), .val (.int x1), .unset, .unset, .unset]) rfl k) ?_
            show own_Go p e below _ T105 (mkF m 128 #[.val (.int p1), .val (.int p2), .val (.int p3), .val (.int p4), .val (.int p5), .val (.int x0), .val (.int x2), .val (.int x1), .val (.int (3 : Int32)), .val (.int md), .val (.ref b67), .val (.int x1), .unset, .unset, .unset] [])
            refine own_st (fun t k => XS.goto X105.here hx rfl (pc0 := 128) (pc' := 147) rfl (hb hby at_128) (by decide) (by decide) k) ?_
            show own_Go p e below _ T105 (mkF m 147 #[.val (.int p1), .val (.int p2), .val (.int p3), .val (.int p4), .val (.int p5), .val (.int x0), .val (.int x2), .val (.int x1), .val (.int (3 : Int32)), .val (.int md), .val (.ref b67), .val (.int x1), .unset, .unset, .unset] [])
            exact tail _
          · refine own_st (fun t k => XS.icmpYes X105.here hx rfl (pc0 := 121) (pc' := 131) rfl (hb hby at_121) rfl (feq hm1).2 (by decide) (by decide) k) ?_
            show own_Go p e below _ T105 (mkF m 131 #[.val (.int p1), .val (.int p2), .val (.int p3), .val (.int p4), .val (.int p5), .val (.int x0), .val (.int x2), .val (.int x1), .val (.int (3 : Int32)), .val (.int md), .val (.ref b67), .unset, .unset, .unset, .unset] [])
            refine own_st (fun t k => XS.iload X105.here hx rfl (hb hby at_131) rfl  k) ?_
            show own_Go p e below _ T105 (mkF m 133 #[.val (.int p1), .val (.int p2), .val (.int p3), .val (.int p4), .val (.int p5), .val (.int x0), .val (.int x2), .val (.int x1), .val (.int (3 : Int32)), .val (.int md), .val (.ref b67), .unset, .unset, .unset, .unset] [(.int md)])
            refine own_st (fun t k => XS.iconst X105.here hx rfl (hb hby at_133) k) ?_
            show own_Go p e below _ T105 (mkF m 134 #[.val (.int p1), .val (.int p2), .val (.int p3), .val (.int p4), .val (.int p5), .val (.int x0), .val (.int x2), .val (.int x1), .val (.int (3 : Int32)), .val (.int md), .val (.ref b67), .unset, .unset, .unset, .unset] [(.int (2 : Int32)), (.int md)])
            by_cases hm2 : md = (2 : Int32)
            · refine own_st (fun t k => XS.icmpNo X105.here hx rfl (hb hby at_134) rfl (teq hm2).2 k) ?_
              show own_Go p e below _ T105 (mkF m 137 #[.val (.int p1), .val (.int p2), .val (.int p3), .val (.int p4), .val (.int p5), .val (.int x0), .val (.int x2), .val (.int x1), .val (.int (3 : Int32)), .val (.int md), .val (.ref b67), .unset, .unset, .unset, .unset] [])
              refine own_st (fun t k => XS.iload X105.here hx rfl (hb hby at_137) rfl  k) ?_
              show own_Go p e below _ T105 (mkF m 139 #[.val (.int p1), .val (.int p2), .val (.int p3), .val (.int p4), .val (.int p5), .val (.int x0), .val (.int x2), .val (.int x1), .val (.int (3 : Int32)), .val (.int md), .val (.ref b67), .unset, .unset, .unset, .unset] [(.int x2)])
              refine own_st (fun t k => XS.istore X105.here hx rfl (hb hby at_139) rfl (l' := #[.val (.int p1), .val (.int p2), .val (.int p3), .val (.int p4), .val (.int p5), .val (.int x0), .val (.int x2), .val (.int x1), .val (.int (3 : Int32)), .val (.int md), .val (.ref b67), .val (.int x2), .unset, .unset, .unset]) rfl k) ?_
              show own_Go p e below _ T105 (mkF m 141 #[.val (.int p1), .val (.int p2), .val (.int p3), .val (.int p4), .val (.int p5), .val (.int x0), .val (.int x2), .val (.int x1), .val (.int (3 : Int32)), .val (.int md), .val (.ref b67), .val (.int x2), .unset, .unset, .unset] [])
              refine own_st (fun t k => XS.goto X105.here hx rfl (pc0 := 141) (pc' := 147) rfl (hb hby at_141) (by decide) (by decide) k) ?_
              show own_Go p e below _ T105 (mkF m 147 #[.val (.int p1), .val (.int p2), .val (.int p3), .val (.int p4), .val (.int p5), .val (.int x0), .val (.int x2), .val (.int x1), .val (.int (3 : Int32)), .val (.int md), .val (.ref b67), .val (.int x2), .unset, .unset, .unset] [])
              exact tail _
            · refine own_st (fun t k => XS.icmpYes X105.here hx rfl (pc0 := 134) (pc' := 144) rfl (hb hby at_134) rfl (feq hm2).2 (by decide) (by decide) k) ?_
              show own_Go p e below _ T105 (mkF m 144 #[.val (.int p1), .val (.int p2), .val (.int p3), .val (.int p4), .val (.int p5), .val (.int x0), .val (.int x2), .val (.int x1), .val (.int (3 : Int32)), .val (.int md), .val (.ref b67), .unset, .unset, .unset, .unset] [])
              refine own_st (fun t k => XS.iloadN X105.here hx rfl (hb hby at_144) rfl  k) ?_
              show own_Go p e below _ T105 (mkF m 145 #[.val (.int p1), .val (.int p2), .val (.int p3), .val (.int p4), .val (.int p5), .val (.int x0), .val (.int x2), .val (.int x1), .val (.int (3 : Int32)), .val (.int md), .val (.ref b67), .unset, .unset, .unset, .unset] [(.int p4)])
              refine own_st (fun t k => XS.istore X105.here hx rfl (hb hby at_145) rfl (l' := #[.val (.int p1), .val (.int p2), .val (.int p3), .val (.int p4), .val (.int p5), .val (.int x0), .val (.int x2), .val (.int x1), .val (.int (3 : Int32)), .val (.int md), .val (.ref b67), .val (.int p4), .unset, .unset, .unset]) rfl k) ?_
              show own_Go p e below _ T105 (mkF m 147 #[.val (.int p1), .val (.int p2), .val (.int p3), .val (.int p4), .val (.int p5), .val (.int x0), .val (.int x2), .val (.int x1), .val (.int (3 : Int32)), .val (.int md), .val (.ref b67), .val (.int p4), .unset, .unset, .unset] [])
              exact tail _
set_option maxRecDepth 65536 in
set_option maxHeartbeats 40000000 in
theorem comes_1 {Post : Tables → Env → Array Value → State → Outcome → State → Prop} (hpost : ∀ tb e args s v u, (limb_1_1.after args s (.returned v) u = true ∧ limb_1_2.after args s (.returned v) u = true ∧ True) → FrameEnd s (.returned v) u (Jvm.fieldLocs frame_1_writes args s ++ Jvm.arrayLocs frame_1_arrays args s ++ Jvm.staticLocs frame_1_statics s) 24 128 → Post tb e args s (.returned v) u) :
    ArmFor flags0 classFile x code maxLocals ret World_1 tables_1 room_1 Calls_1 rest_1 Pre_1 Post := by
  intro l hfl _ _ p e ha hc hk s m args below hf hA hF happ hP
  obtain ⟨hcalls, hrest, hpre⟩ := hP
  obtain ⟨-, -, -, hnamed, -, -, -, hat⟩ := (Spec.applies_iff hf).mp happ
  obtain ⟨hg, hn⟩ := and_e (Cond.before_iff.mp (show (Jvm.Cond.and given_1 narrow_1).before args s = true from hpre))
  obtain ⟨gc, hg⟩ := and_e hg
  obtain ⟨q0, hg⟩ := and_e hg
  obtain ⟨q1, hg⟩ := and_e hg
  obtain ⟨q2, hg⟩ := and_e hg
  obtain ⟨q3, hg⟩ := and_e hg
  have q4 := hg
  obtain ⟨w0, w1, w2, w3, w4, rfl⟩ : ∃ w0 w1 w2 w3 w4 : Value, args = #[w0, w1, w2, w3, w4] := by
    have hs : args.size = 5 := by simpa [Cond.value, given_1] using gc
    obtain ⟨L⟩ := args
    match L, hs with
    | [w0, w1, w2, w3, w4], _ => exact ⟨w0, w1, w2, w3, w4, rfl⟩
  have hw := fun d (hd : d ∈ tables_1) => atoms_spec (ws := Jvm.Cond.code x code maxLocals ret :: tables_1) hat d (List.mem_cons_of_mem _ hd)
  have hfit : Fit s := fun {y c} hc i hi => by
    obtain ⟨ha, rfl⟩ := Array.getElem?_eq_some_iff.mp hc
    have q := List.all_eq_true.mp ((Array.all_eq_true_iff_forall_mem.mp hF) _ (Array.getElem_mem ha)) i (List.mem_range.mpr hi)
    simpa [Array.getElem?_eq_getElem hi] using q
  obtain ⟨i0, ei0⟩ := is_v q0
  obtain rfl : w0 = (.int i0) := Option.some.inj ei0
  obtain ⟨i1, ei1⟩ := is_v q1
  obtain rfl : w1 = (.int i1) := Option.some.inj ei1
  obtain ⟨i2, ei2⟩ := is_v q2
  obtain rfl : w2 = (.int i2) := Option.some.inj ei2
  obtain ⟨i3, ei3⟩ := is_v q3
  obtain rfl : w3 = (.int i3) := Option.some.inj ei3
  obtain ⟨i4, ei4⟩ := is_v q4
  obtain rfl : w4 = (.int i4) := Option.some.inj ei4
  obtain ⟨n, o, h1, h2, h3, _, L, rfl, ⟨rfl, N⟩, hq⟩ := rm0 l s _ hw tables_1 i0 i1 i2 i3 i4 s.heap s.heap.size (Nat.le_refl _) p e ha hc hk s m _ below hf ((Spec.applies_iff_loose hf).mp happ).1 ⟨rfl, State.Warmed39.refl s, rfl⟩ trivial
  refine ⟨n, _, h1, h2, h3, hpost _ _ _ _ _ _ ⟨Cond.after_iff.mpr rfl, Cond.after_iff.mpr (eq_i res_at (Term.int_eval (1)) rfl), trivial⟩ ⟨hq.1, hq.2.1, (hq.2.2.sift fun y hy => Or.inr (N y hy)).mono (by decide) (by decide)⟩⟩
theorem main_1_1 : Claimed_1_1 := comes_1 fun _ _ _ _ _ _ h hF => ⟨h.1, hF⟩
theorem main_1_2 : Claimed_1_2 := comes_1 fun _ _ _ _ _ _ h hF => ⟨h.2.1, hF⟩
end Jvm.Pilot.@@N@@
namespace Jvm.Pilot.@@N@@
open Jvm Jvm.ClassFile Sem Op Lib Jvm.Free Jvm.Stand Jvm.Pilot.@@N@@.Jvm.D
/-! MADE BY PROGRAM (witnessworld.py) out of the Statement's table words and the real class files: 13 classes; the members and pool entries that the words name. The judged class is class 1, her method 1. -/
namespace start1
open Jvm.ClassFile
def u (s : String) : CpInfo := .utf8 (stringToUtf16 s)
/-- a pool by its gaps: so many unusable entries, then the entry; so many at the end -/
def gap : Nat → List CpInfo → List CpInfo
  | 0, r => r
  | n + 1, r => .unusable :: gap n r
def poolList (es : List (Nat × CpInfo)) (last : Nat) : List CpInfo := es.foldr (fun e r => gap e.1 (e.2 :: r)) (gap last [])
def pool (es : List (Nat × CpInfo)) (last : Nat) : Array CpInfo := ⟨poolList es last⟩
def fileOf (pool : Array CpInfo) (this : Nat) (attrs : Array Attribute := #[]) (ms : Array MethodInfo := #[]) (fl : Nat := 33) (sup : Nat := 0) (ifs : Array Nat := #[]) (fds : Array FieldInfo := #[]) : ClassFile where
  minorVersion := 0
  majorVersion := 65
  constantPool := pool
  accessFlags := fl
  thisClass := this
  superClass := sup
  interfaces := ifs
  fields := fds
  methods := ms
  attributes := attrs
def plain (name : String) (sup : Option ClassId) : Class where
  name := name
  kind := .ordinary
  loader := none
  accessFlags := 33
  super := sup
  interfaces := #[]
  cf := none
  fields := #[]
  methods := #[]
  instanceTypes := #[]
  staticTypes := #[]
  resolved := #[]
  callSites := []
  init := .initialized
  statics := none
  mirror := none

def pool0 : Array CpInfo := pool [(5, u "<init>"), (0, u "()V"), (1, .class_ 10), (1, u "java/lang/Object")] 113

def k0c0 : Code := { maxStack := 0, maxLocals := 1, code := object_method_1_code, exceptionTable := #[], attributes := #[] }
def k0m0 : Method := { name := "<init>", desc := "()V", sig := { parameters := [], returnType := none }, accessFlags := 1, code := some k0c0 }
/-- java/lang/Object -/
def k0 : Class := { plain "java/lang/Object" none with
  accessFlags := 33
  interfaces := #[]
  cf := some (fileOf pool0 8 #[] #[{ accessFlags := 1, nameIndex := 5, descriptorIndex := 6, attributes := #[] }] 33 0 #[] #[])
  fields := #[]
  methods := #[k0m0]
  instanceTypes := #[]
  staticTypes := #[]
  resolved := Array.replicate 124 none
  statics := none }

def pool1 : Array CpInfo := pool [(2, .class_ 4), (1, u "java/lang/Object"), (0, u "<init>"), (0, u "()V"), (0, .methodref 8 9), (0, .class_ 10), (0, .nameAndType 11 12), (0, u "java/lang/Math"), (0, u "min"), (0, u "(II)I"), (0, .methodref 8 14), (0, .nameAndType 15 12), (0, u "max"), (0, .class_ 17), (0, u "com/example/rank3/rank3/text/Postings"), (0, .methodref 16 19), (0, .nameAndType 5 20), (0, u "([I[I[I[Z)V"), (0, .methodref 16 22), (0, .nameAndType 23 24), (0, u "indexOf"), (0, u "(I)I"), (0, .class_ 26), (0, u "com/example/rank3/rank3/text/PostingsIndexOfPinLaw"), (2, u "law"), (0, u "(IIIII)Z")] 5

def k1m0 : Method := { name := "<init>", desc := "()V", sig := { parameters := [], returnType := none }, accessFlags := 1, code := none }
def k1c1 : Code := { maxStack := 6, maxLocals := 15, code := code, exceptionTable := #[], attributes := #[] }
def k1m1 : Method := { name := "law", desc := "(IIIII)Z", sig := { parameters := [.int, .int, .int, .int, .int], returnType := some .boolean }, accessFlags := 9, code := some k1c1 }
/-- com/example/rank3/rank3/text/PostingsIndexOfPinLaw -/
def k1 : Class := { plain "com/example/rank3/rank3/text/PostingsIndexOfPinLaw" (some 0) with
  accessFlags := 49
  interfaces := #[]
  cf := some (fileOf pool1 25 #[] #[{ accessFlags := 1, nameIndex := 5, descriptorIndex := 6, attributes := #[] }, { accessFlags := 9, nameIndex := 29, descriptorIndex := 30, attributes := #[] }] 49 2 #[] #[])
  fields := #[]
  methods := #[k1m0, k1m1]
  instanceTypes := #[]
  staticTypes := #[]
  resolved := Array.replicate 36 none
  statics := none }

def pool2 : Array CpInfo := pool [(1, .class_ 2), (0, u "java/lang/Math"), (1, .class_ 6), (1, u "java/lang/Object"), (0, u "<init>"), (0, u "()V"), (89, .class_ 100), (1, u "java/lang/Math$RandomNumberGeneratorHolder"), (71, u "negativeZeroFloatBits"), (0, u "J"), (2, u "negativeZeroDoubleBits"), (21, u "max"), (2, u "min"), (43, u "$assertionsDisabled"), (0, u "Z"), (88, u "(II)I"), (2, u "twoToTheDoubleScaleDown"), (0, u "D"), (4, u "twoToTheDoubleScaleUp"), (9, u "E"), (3, u "PI"), (2, u "TAU"), (2, u "DEGREES_TO_RADIANS"), (0, u "RADIANS_TO_DEGREES")] 94

def k2m0 : Method := { name := "<init>", desc := "()V", sig := { parameters := [], returnType := none }, accessFlags := 2, code := none }
def k2c1 : Code := { maxStack := 2, maxLocals := 2, code := jdk_29_method_65_code, exceptionTable := #[], attributes := #[] }
def k2m1 : Method := { name := "max", desc := "(II)I", sig := { parameters := [.int, .int], returnType := some .int }, accessFlags := 9, code := some k2c1 }
def k2c2 : Code := { maxStack := 2, maxLocals := 2, code := jdk_29_method_69_code, exceptionTable := #[], attributes := #[] }
def k2m2 : Method := { name := "min", desc := "(II)I", sig := { parameters := [.int, .int], returnType := some .int }, accessFlags := 9, code := some k2c2 }
/-- java/lang/Math -/
def k2 : Class := { plain "java/lang/Math" (some 0) with
  accessFlags := 49
  interfaces := #[]
  cf := some (fileOf pool2 1 #[.nestMembers #[98]] #[{ accessFlags := 2, nameIndex := 7, descriptorIndex := 8, attributes := #[] }, { accessFlags := 9, nameIndex := 198, descriptorIndex := 335, attributes := #[] }, { accessFlags := 9, nameIndex := 201, descriptorIndex := 335, attributes := #[] }] 49 4 #[] #[{ accessFlags := 25, nameIndex := 354, descriptorIndex := 339, attributes := #[] }, { accessFlags := 25, nameIndex := 358, descriptorIndex := 339, attributes := #[] }, { accessFlags := 25, nameIndex := 361, descriptorIndex := 339, attributes := #[] }, { accessFlags := 26, nameIndex := 364, descriptorIndex := 339, attributes := #[] }, { accessFlags := 26, nameIndex := 365, descriptorIndex := 339, attributes := #[] }, { accessFlags := 26, nameIndex := 172, descriptorIndex := 173, attributes := #[] }, { accessFlags := 26, nameIndex := 176, descriptorIndex := 173, attributes := #[] }, { accessFlags := 8, nameIndex := 344, descriptorIndex := 339, attributes := #[] }, { accessFlags := 8, nameIndex := 338, descriptorIndex := 339, attributes := #[] }, { accessFlags := 4120, nameIndex := 245, descriptorIndex := 246, attributes := #[] }])
  fields := #[{ name := "E", type := .double, accessFlags := 25, slot := 0, constantValue := 0 }, { name := "PI", type := .double, accessFlags := 25, slot := 1, constantValue := 0 }, { name := "TAU", type := .double, accessFlags := 25, slot := 2, constantValue := 0 }, { name := "DEGREES_TO_RADIANS", type := .double, accessFlags := 26, slot := 3, constantValue := 0 }, { name := "RADIANS_TO_DEGREES", type := .double, accessFlags := 26, slot := 4, constantValue := 0 }, { name := "negativeZeroFloatBits", type := .long, accessFlags := 26, slot := 5, constantValue := 0 }, { name := "negativeZeroDoubleBits", type := .long, accessFlags := 26, slot := 6, constantValue := 0 }, { name := "twoToTheDoubleScaleUp", type := .double, accessFlags := 8, slot := 7, constantValue := 0 }, { name := "twoToTheDoubleScaleDown", type := .double, accessFlags := 8, slot := 8, constantValue := 0 }, { name := "$assertionsDisabled", type := .boolean, accessFlags := 4120, slot := 9, constantValue := 0 }]
  methods := #[k2m0, k2m1, k2m2]
  instanceTypes := #[]
  staticTypes := #[.double, .double, .double, .double, .double, .long, .long, .double, .double, .boolean]
  resolved := Array.replicate 460 none
  statics := none }

def pool3 : Array CpInfo := pool [(1, .methodref 2 3), (0, .class_ 4), (0, .nameAndType 5 6), (0, u "java/lang/Object"), (0, u "<init>"), (0, u "()V"), (0, .fieldref 8 9), (0, .class_ 10), (0, .nameAndType 11 12), (0, u "com/example/rank3/rank3/text/Postings"), (0, u "resources"), (0, u "[I"), (0, .fieldref 8 14), (0, .nameAndType 15 12), (0, u "titleCounts"), (0, .fieldref 8 17), (0, .nameAndType 18 12), (0, u "contentCounts"), (0, .fieldref 8 20), (0, .nameAndType 21 22), (0, u "inStructure"), (0, u "[Z"), (0, .fieldref 8 24), (0, .nameAndType 25 26), (0, u "collectionCount"), (0, u "J"), (0, .methodref 28 29), (0, .class_ 30), (0, .nameAndType 31 32), (0, u "java/util/Arrays"), (0, u "binarySearch"), (0, u "([II)I"), (2, u "([I[I[I[Z)V"), (2, u "EMPTY"), (0, u "Lcom/example/rank3/rank3/text/Postings;"), (8, u "(I)I"), (4, u "indexOf")] 3

def k3c0 : Code := { maxStack := 4, maxLocals := 11, code := prog_44_method_1_code, exceptionTable := #[], attributes := #[] }
def k3m0 : Method := { name := "<init>", desc := "([I[I[I[Z)V", sig := { parameters := [(.array .int), (.array .int), (.array .int), (.array .boolean)], returnType := none }, accessFlags := 0, code := some k3c0 }
def k3c1 : Code := { maxStack := 2, maxLocals := 3, code := prog_44_method_8_code, exceptionTable := #[], attributes := #[] }
def k3m1 : Method := { name := "indexOf", desc := "(I)I", sig := { parameters := [.int], returnType := some .int }, accessFlags := 1, code := some k3c1 }
/-- com/example/rank3/rank3/text/Postings -/
def k3 : Class := { plain "com/example/rank3/rank3/text/Postings" (some 0) with
  accessFlags := 49
  interfaces := #[]
  cf := some (fileOf pool3 8 #[] #[{ accessFlags := 0, nameIndex := 5, descriptorIndex := 35, attributes := #[] }, { accessFlags := 1, nameIndex := 53, descriptorIndex := 48, attributes := #[] }] 49 2 #[] #[{ accessFlags := 24, nameIndex := 38, descriptorIndex := 39, attributes := #[] }, { accessFlags := 18, nameIndex := 11, descriptorIndex := 12, attributes := #[] }, { accessFlags := 18, nameIndex := 15, descriptorIndex := 12, attributes := #[] }, { accessFlags := 18, nameIndex := 18, descriptorIndex := 12, attributes := #[] }, { accessFlags := 18, nameIndex := 21, descriptorIndex := 22, attributes := #[] }, { accessFlags := 18, nameIndex := 25, descriptorIndex := 26, attributes := #[] }])
  fields := #[{ name := "EMPTY", type := (.object "com/example/rank3/rank3/text/Postings"), accessFlags := 24, slot := 0, constantValue := 0 }, { name := "resources", type := (.array .int), accessFlags := 18, slot := 0, constantValue := 0 }, { name := "titleCounts", type := (.array .int), accessFlags := 18, slot := 1, constantValue := 0 }, { name := "contentCounts", type := (.array .int), accessFlags := 18, slot := 2, constantValue := 0 }, { name := "inStructure", type := (.array .boolean), accessFlags := 18, slot := 3, constantValue := 0 }, { name := "collectionCount", type := .long, accessFlags := 18, slot := 4, constantValue := 0 }]
  methods := #[k3m0, k3m1]
  instanceTypes := #[(.array .int), (.array .int), (.array .int), (.array .boolean), .long]
  staticTypes := #[(.object "com/example/rank3/rank3/text/Postings")]
  resolved := Array.replicate 57 none
  statics := none }

def pool4 : Array CpInfo := pool [(2, .class_ 4), (1, u "java/lang/Object"), (0, u "<init>"), (0, u "()V"), (7, .class_ 16), (1, u "java/util/Arrays"), (57, .class_ 76), (1, u "java/util/Arrays$NaturalOrder"), (36, .class_ 115), (1, u "java/util/Arrays$LegacyMergeSort"), (1, u "Z"), (89, u "binarySearch0"), (1, .methodref 14 210), (0, .nameAndType 207 211), (0, u "([IIII)I"), (163, .class_ 376), (0, u "java/util/Arrays$ArrayList"), (68, u "$assertionsDisabled"), (269, u "MIN_ARRAY_SORT_GRAN"), (0, u "I"), (2, u "INSERTIONSORT_THRESHOLD"), (74, u "binarySearch"), (4, u "([II)I"), (175, .class_ 976), (0, u "java/util/Arrays$ArrayItr")] 52

def k4m0 : Method := { name := "<init>", desc := "()V", sig := { parameters := [], returnType := none }, accessFlags := 2, code := none }
def k4c1 : Code := { maxStack := 4, maxLocals := 2, code := jdk_65_method_57_code, exceptionTable := #[], attributes := #[] }
def k4m1 : Method := { name := "binarySearch", desc := "([II)I", sig := { parameters := [(.array .int), .int], returnType := some .int }, accessFlags := 9, code := some k4c1 }
def k4c2 : Code := { maxStack := 2, maxLocals := 8, code := jdk_65_method_59_code, exceptionTable := #[], attributes := #[] }
def k4m2 : Method := { name := "binarySearch0", desc := "([IIII)I", sig := { parameters := [(.array .int), .int, .int, .int], returnType := some .int }, accessFlags := 10, code := some k4c2 }
/-- java/util/Arrays -/
def k4 : Class := { plain "java/util/Arrays" (some 0) with
  accessFlags := 49
  interfaces := #[]
  cf := some (fileOf pool4 14 #[.nestMembers #[975, 375, 113, 74]] #[{ accessFlags := 2, nameIndex := 5, descriptorIndex := 6, attributes := #[] }, { accessFlags := 9, nameIndex := 794, descriptorIndex := 799, attributes := #[] }, { accessFlags := 10, nameIndex := 207, descriptorIndex := 211, attributes := #[] }] 49 2 #[] #[{ accessFlags := 26, nameIndex := 715, descriptorIndex := 716, attributes := #[] }, { accessFlags := 26, nameIndex := 719, descriptorIndex := 716, attributes := #[] }, { accessFlags := 4120, nameIndex := 445, descriptorIndex := 117, attributes := #[] }])
  fields := #[{ name := "MIN_ARRAY_SORT_GRAN", type := .int, accessFlags := 26, slot := 0, constantValue := 0 }, { name := "INSERTIONSORT_THRESHOLD", type := .int, accessFlags := 26, slot := 1, constantValue := 0 }, { name := "$assertionsDisabled", type := .boolean, accessFlags := 4120, slot := 2, constantValue := 0 }]
  methods := #[k4m0, k4m1, k4m2]
  instanceTypes := #[]
  staticTypes := #[.int, .int, .boolean]
  resolved := Array.replicate 1029 none
  statics := none }

def pool5 : Array CpInfo := pool [(1, u "java/lang/Cloneable"), (0, .class_ 1), (0, u "java/lang/Object"), (0, .class_ 3)] 3

/-- java/lang/Cloneable -/
def k5 : Class := { plain "java/lang/Cloneable" (some 0) with
  accessFlags := 1537
  interfaces := #[]
  cf := some (fileOf pool5 2 #[] #[] 1537 4 #[] #[])
  fields := #[]
  methods := #[]
  instanceTypes := #[]
  staticTypes := #[]
  resolved := Array.replicate 8 none
  statics := none }

def pool6 : Array CpInfo := pool [(1, u "java/io/Serializable"), (0, .class_ 1), (0, u "java/lang/Object"), (0, .class_ 3)] 3

/-- java/io/Serializable -/
def k6 : Class := { plain "java/io/Serializable" (some 0) with
  accessFlags := 1537
  interfaces := #[]
  cf := some (fileOf pool6 2 #[] #[] 1537 4 #[] #[])
  fields := #[]
  methods := #[]
  instanceTypes := #[]
  staticTypes := #[]
  resolved := Array.replicate 8 none
  statics := none }

/-- the primitive boolean -/
def k7 : Class := { plain "boolean" none with kind := .primitive 'Z', accessFlags := 0x411 }
/-- [Z -/
def k8 : Class := { plain "[Z" (some 0) with kind := .array 7 .boolean, interfaces := #[5, 6], accessFlags := 1041 }

/-- the primitive byte -/
def k9 : Class := { plain "byte" none with kind := .primitive 'B', accessFlags := 0x411 }
/-- [B -/
def k10 : Class := { plain "[B" (some 0) with kind := .array 9 .byte, interfaces := #[5, 6], accessFlags := 1041 }

/-- the primitive int -/
def k11 : Class := { plain "int" none with kind := .primitive 'I', accessFlags := 0x411 }
/-- [I -/
def k12 : Class := { plain "[I" (some 0) with kind := .array 11 .int, interfaces := #[5, 6], accessFlags := 1041 }

def heap : Heap := #[]
def classes : Array Class := #[k0, k1, k2, k3, k4, k5, k6, k7, k8, k9, k10, k11, k12]
def interned : List (Array UInt16 × Addr) := []
def slotsUsed : Nat := 0
def theMethod : MethodId := ⟨1, 1⟩
def args0 : Array Value := #[.int 5, .int 5, .int 5, .int 5, .int 5]
def aboutOver (below : List Frame) : State where
  vm := { classes := classes, interned := interned.toArray }
  heap := heap
  slotsUsed := slotsUsed
  threads := #[{ frames := .invoking theMethod args0 :: below }]
def below0 : List Frame := [.native { method := ⟨0, 0⟩, args := #[] }]
def about1 : State := aboutOver below0
def p0 : Program := .bare "" "" ""
def e0 : Env := launch0.env 0 0 0
theorem w_frames : about1.frames = Frame.invoking theMethod args0 :: below0 := rfl
set_option maxRecDepth 65536 in
theorem w_args : argsFit about1.vm theMethod args0 = true := by decide +kernel
set_option maxRecDepth 65536 in
theorem w_heap : heapFits about1 = true := by decide +kernel
set_option maxRecDepth 65536 in
theorem w_runnable : about1.curStatus? = some .runnable := by decide +kernel
set_option maxRecDepth 65536 in
theorem w_alone : about1.alone = true := by decide +kernel
set_option maxRecDepth 65536 in
theorem w_named : about1.methodNamed? x = some theMethod := by decide +kernel
set_option maxRecDepth 65536 in
theorem w_hears : about1.hears theMethod below0 = true := by decide +kernel
set_option maxRecDepth 65536 in
theorem w_ripe : about1.ripe theMethod args0 below0 = true := by decide +kernel
theorem w_running : about1.status = .running := rfl
set_option maxRecDepth 65536 in
theorem w_room : about1.hasRoom e0.platform room_1 = true :=
  launch0.hasRoom_least _ room_1 (by decide +kernel) (by decide +kernel) (by decide +kernel) (by decide +kernel) (by decide +kernel) (by decide +kernel)
theorem allAtoms_all (ts : List Jvm.Cond) (a : Array Jvm.Value) (st : Jvm.State) : (allAtoms ts).before a st = ts.all (fun c => c.before a st) := by
  induction ts with
  | nil => rfl
  | cons c t ih =>
    show (Jvm.Cond.and c (allAtoms t)).before a st = _
    rw [Jvm.Cond.before_and, ih, List.all_cons]
def words1 : List Jvm.Cond := Jvm.Cond.code x code maxLocals ret :: tables_1
/-- a 'code' word, met by the world's own term for the bytes: nothing is compared byte by byte -/
theorem code_word {y : MethodName} {bytes : ByteArray} {mx : Nat} {rt : Option FieldType} {a : Array Value} {s : State} {m : MethodId} {meth : Method} {c : Code} (h1 : s.methodNamed? y = some m) (h2 : s.vm.method? m = some meth) (h3 : meth.code = some c) (h4 : c.code = bytes)
    (h5 : (c.maxLocals == mx && c.exceptionTable.isEmpty && decide (c.maxStack ≤ mostOperands) && decide (meth.sig.returnType = rt) && !meth.locks && decide (parseMethodDescriptor y.desc = some meth.sig)) = true) : (Jvm.Cond.code y bytes mx rt).before a s = true := by
  simp only [Bool.and_eq_true, beq_iff_eq, Bool.not_eq_true', decide_eq_true_eq] at h5
  obtain ⟨⟨⟨⟨⟨g1, g2⟩, g3⟩, g4⟩, g5⟩, g6⟩ := h5
  simp [Cond.before, Cond.holds, Cond.value, h1, h2, h3, h4, g1, g2, g3, g4, g5, g6]
def isCode : Jvm.Cond → Bool
  | .code _ _ _ _ => true
  | _ => false
theorem all_split {L : List Jvm.Cond} {P : Jvm.Cond → Bool} (h1 : L.all (fun c => isCode c || P c) = true) (h2 : ∀ c ∈ L.filter isCode, P c = true) : L.all P = true := by
  refine List.all_eq_true.mpr fun c hc => ?_
  have h := List.all_eq_true.mp h1 c hc
  rcases Bool.eq_false_or_eq_true (isCode c) with hi | hi
  · exact h2 c (List.mem_filter.mpr ⟨hc, hi⟩)
  · simpa [hi] using h
set_option maxRecDepth 65536 in
theorem w_c0 : (Jvm.Cond.code x code maxLocals ret).before args0 about1 = true := code_word (m := ⟨1, 1⟩) (meth := k1m1) (c := k1c1) (by decide +kernel) rfl rfl rfl (by decide +kernel)
set_option maxRecDepth 65536 in
theorem w_c1 : (Jvm.Cond.code ({ cls := "java/lang/Math", name := "min", desc := "(II)I" } : Jvm.MethodName) jdk_29_method_69_code (2 : Nat) (Option.some Jvm.ClassFile.FieldType.int)).before args0 about1 = true := code_word (m := ⟨2, 2⟩) (meth := k2m2) (c := k2c2) (by decide +kernel) rfl rfl rfl (by decide +kernel)
set_option maxRecDepth 65536 in
theorem w_c2 : (Jvm.Cond.code ({ cls := "java/lang/Math", name := "max", desc := "(II)I" } : Jvm.MethodName) jdk_29_method_65_code (2 : Nat) (Option.some Jvm.ClassFile.FieldType.int)).before args0 about1 = true := code_word (m := ⟨2, 1⟩) (meth := k2m1) (c := k2c1) (by decide +kernel) rfl rfl rfl (by decide +kernel)
set_option maxRecDepth 65536 in
theorem w_c3 : (Jvm.Cond.code ({ cls := "com/example/rank3/rank3/text/Postings", name := "<init>", desc := "([I[I[I[Z)V" } : Jvm.MethodName) prog_44_method_1_code (11 : Nat) (Option.none : Option Jvm.ClassFile.FieldType)).before args0 about1 = true := code_word (m := ⟨3, 0⟩) (meth := k3m0) (c := k3c0) (by decide +kernel) rfl rfl rfl (by decide +kernel)
set_option maxRecDepth 65536 in
theorem w_c4 : (Jvm.Cond.code ({ cls := "java/lang/Object", name := "<init>", desc := "()V" } : Jvm.MethodName) object_method_1_code (1 : Nat) (Option.none : Option Jvm.ClassFile.FieldType)).before args0 about1 = true := code_word (m := ⟨0, 0⟩) (meth := k0m0) (c := k0c0) (by decide +kernel) rfl rfl rfl (by decide +kernel)
set_option maxRecDepth 65536 in
theorem w_c5 : (Jvm.Cond.code ({ cls := "com/example/rank3/rank3/text/Postings", name := "indexOf", desc := "(I)I" } : Jvm.MethodName) prog_44_method_8_code (3 : Nat) (Option.some Jvm.ClassFile.FieldType.int)).before args0 about1 = true := code_word (m := ⟨3, 1⟩) (meth := k3m1) (c := k3c1) (by decide +kernel) rfl rfl rfl (by decide +kernel)
set_option maxRecDepth 65536 in
theorem w_c6 : (Jvm.Cond.code ({ cls := "java/util/Arrays", name := "binarySearch", desc := "([II)I" } : Jvm.MethodName) jdk_65_method_57_code (2 : Nat) (Option.some Jvm.ClassFile.FieldType.int)).before args0 about1 = true := code_word (m := ⟨4, 1⟩) (meth := k4m1) (c := k4c1) (by decide +kernel) rfl rfl rfl (by decide +kernel)
set_option maxRecDepth 65536 in
theorem w_c7 : (Jvm.Cond.code ({ cls := "java/util/Arrays", name := "binarySearch0", desc := "([IIII)I" } : Jvm.MethodName) jdk_65_method_59_code (8 : Nat) (Option.some Jvm.ClassFile.FieldType.int)).before args0 about1 = true := code_word (m := ⟨4, 2⟩) (meth := k4m2) (c := k4c2) (by decide +kernel) rfl rfl rfl (by decide +kernel)
def codes1 : List Jvm.Cond := [Jvm.Cond.code x code maxLocals ret, Jvm.Cond.code ({ cls := "java/lang/Math", name := "min", desc := "(II)I" } : Jvm.MethodName) jdk_29_method_69_code (2 : Nat) (Option.some Jvm.ClassFile.FieldType.int), Jvm.Cond.code ({ cls := "java/lang/Math", name := "max", desc := "(II)I" } : Jvm.MethodName) jdk_29_method_65_code (2 : Nat) (Option.some Jvm.ClassFile.FieldType.int), Jvm.Cond.code ({ cls := "com/example/rank3/rank3/text/Postings", name := "<init>", desc := "([I[I[I[Z)V" } : Jvm.MethodName) prog_44_method_1_code (11 : Nat) (Option.none : Option Jvm.ClassFile.FieldType), Jvm.Cond.code ({ cls := "java/lang/Object", name := "<init>", desc := "()V" } : Jvm.MethodName) object_method_1_code (1 : Nat) (Option.none : Option Jvm.ClassFile.FieldType), Jvm.Cond.code ({ cls := "com/example/rank3/rank3/text/Postings", name := "indexOf", desc := "(I)I" } : Jvm.MethodName) prog_44_method_8_code (3 : Nat) (Option.some Jvm.ClassFile.FieldType.int), Jvm.Cond.code ({ cls := "java/util/Arrays", name := "binarySearch", desc := "([II)I" } : Jvm.MethodName) jdk_65_method_57_code (2 : Nat) (Option.some Jvm.ClassFile.FieldType.int), Jvm.Cond.code ({ cls := "java/util/Arrays", name := "binarySearch0", desc := "([IIII)I" } : Jvm.MethodName) jdk_65_method_59_code (8 : Nat) (Option.some Jvm.ClassFile.FieldType.int)]
set_option maxRecDepth 65536 in
theorem codes_eq : words1.filter isCode = codes1 := rfl
theorem w_codes : ∀ c ∈ words1.filter isCode, c.before args0 about1 = true := by
  rw [codes_eq]
  intro c hc
  simp only [codes1, List.mem_cons, List.not_mem_nil, or_false] at hc
  rcases hc with rfl | rfl | rfl | rfl | rfl | rfl | rfl | rfl
  · exact w_c0
  · exact w_c1
  · exact w_c2
  · exact w_c3
  · exact w_c4
  · exact w_c5
  · exact w_c6
  · exact w_c7
set_option maxRecDepth 65536 in
theorem w_t1 : (words1.take 24).all (fun c => isCode c || c.before args0 about1) = true := by decide +kernel
set_option maxRecDepth 65536 in
theorem w_t2 : (words1.drop 24).all (fun c => isCode c || c.before args0 about1) = true := by decide +kernel
theorem w_tables : (allAtoms (Jvm.Cond.code x code maxLocals ret :: tables_1)).before args0 about1 = true := by
  rw [allAtoms_all]
  show words1.all (fun c => c.before args0 about1) = true
  refine all_split ?_ w_codes
  rw [← List.take_append_drop 24 words1, List.all_append, w_t1, w_t2]
  rfl
set_option maxRecDepth 65536 in
theorem w_case : (Jvm.Cond.and given_1 narrow_1).before args0 about1 = true := by decide +kernel
theorem w_applies : (headSpec (Jvm.Cond.code x code maxLocals ret :: tables_1) room_1).applies x e0.platform about1 = true :=
  (Spec.applies_iff w_frames).mpr ⟨w_running, w_runnable, w_alone, w_named, w_hears, w_ripe, w_room, w_tables⟩
theorem atStart : AtStart classFile x code maxLocals ret World_1 tables_1 room_1 Calls_1 rest_1 Pre_1 launch0 p0 e0 about1 theMethod args0 below0 :=
  ⟨lists_1, trivial, launch0.admits_env _ _ _, launch0.least_env, fairChoices_fair.cas, fairChoices_fair.clock, w_frames, w_args, w_heap, w_applies, trivial, trivial, w_case⟩
end start1
theorem witness_1 : WitnessClaimed_1 := ⟨start1.p0, start1.e0, start1.about1, start1.theMethod, start1.args0, start1.below0, start1.atStart⟩
end Jvm.Pilot.@@N@@
