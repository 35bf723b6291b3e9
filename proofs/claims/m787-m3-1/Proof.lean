import JvmDerived
import JvmDerived.Pilot.@@N@@Statement
import JvmDerived.Pilot.@@N@@Code
set_option linter.unusedVariables false
set_option linter.unusedSimpArgs false
@@BLOCK:NumsL.lean.txt@@
namespace Jvm.RoadKit
open Sem ClassFile Op Lib Jvm.Stand Jvm.Free Jvm.LawKit
section OwnKit
variable {p : Program} {l : Launch} {e : Env} {R : Room} {s : State} {m : MethodId} {args : Array Value} {below : List Frame} {meth : Method} {c : Code} {T T' : State} {locs locs' : List Loc} {k n k' n' : Nat} {Z : State} {a0 : Array Value} {h h' h0 : Heap}
theorem retI (X : Stand p l e R s m args below meth c T locs k n) (hx : p.tables.exec = Jvm.exec) {pc : Nat} {Ls : Array Slot} {z : Int32} {rest : List Value} (hret : meth.sig.returnType = some .int) (hd : decode c.code pc = .ok (.ireturn, 1)) {fs : List Frame}
    (hl : ∀ (f : JFrame) (acts : List Action), f.method = m → f.locked = none → f.entered = [] → (doReturn e (T.setTop f) acts (some (.int z))).1 = T.setFrames fs) : Steps p.tables e below (T.setTop (mkF m pc Ls (.int z :: rest))) (T.setFrames fs) := by
  have hm' : T.vm.method? m = some meth := X.method'
  have hn : narrow .int (.int z) = .int z := rfl
  show Steps p.tables e below (T.setTop { method := m, pc := pc, locals := Ls, stack := _ :: rest, locked := none }) _
  jvm_step X.here [X.here.top, hx, hd, hm', hret, hn]
  first | (intro acts; rw [hl _ acts rfl rfl rfl]) | rw [hl _ _ rfl rfl rfl]
  exact Steps.refl _
/-- how a body may end: the instruction, the method's return type, what lies on the stack, what is handed back -/
def OwnRet (i : Instr) (ret : Option FieldType) (w v : Option Value) : Prop :=
  (i = .ireturn ∧ ∃ z : Int32, ret = some .int ∧ w = some (.int z) ∧ v = some (.int z)) ∨
  (i = .ireturn ∧ ∃ (t : FieldType) (z : Int32), ret = some t ∧ (t = .boolean ∨ t = .byte ∨ t = .char ∨ t = .short) ∧ w = some (.int z) ∧ v = some (.int (nar t z))) ∨
  (i = .lreturn ∧ ret = some .long ∧ ∃ z : Int64, w = some (.long z) ∧ v = some (.long z)) ∨
  (i = .areturn ∧ ∃ (t : FieldType) (u : Value), ret = some t ∧ t.isReference = true ∧ u.isRef = true ∧ narrow t u = u ∧ w = some u ∧ v = some u) ∨
  (i = .return_ ∧ ret = none ∧ w = none ∧ v = none)
/-- from the frame g the body comes to its return and leaves what Q says -/
def OwnFin (_X : Stand p l e R s m args below meth c T locs k n) (ret : Option FieldType) (Q : Option Value → Heap → List Loc → Prop) (K N : Nat) (g : JFrame) : Prop :=
  ∃ (i : Instr) (w v : Option Value) (T' : State) (locs' : List Loc) (k' n' pcr : Nat) (Ls : Array Slot), OwnRet i ret w v ∧ Stand p l e R s m args below meth c T' locs' k' n' ∧ k' ≤ K ∧ n' ≤ N ∧ Q v T'.heap locs' ∧ decode c.code pcr = .ok (i, 1) ∧
    ∀ t, Steps p.tables e below (T'.setTop (mkF m pcr Ls w.toList)) t → Steps p.tables e below (T.setTop g) t
variable {ret : Option FieldType} {Q : Option Value → Heap → List Loc → Prop} {K N : Nat} {g g' : JFrame}
theorem OwnFin.step {X : Stand p l e R s m args below meth c T locs k n} (X' : Stand p l e R s m args below meth c T' locs' k' n') (hs : ∀ t, Steps p.tables e below (T'.setTop g') t → Steps p.tables e below (T.setTop g) t) (hF : OwnFin X' ret Q K N g') : OwnFin X ret Q K N g := by
  obtain ⟨i, w, v, T2, locs2, k2, n2, pcr, Ls, h1, h2, h3, h4, h5, h6, h7⟩ := hF
  exact ⟨i, w, v, T2, locs2, k2, n2, pcr, Ls, h1, h2, h3, h4, h5, h6, fun t k => hs t (h7 t k)⟩
theorem OwnFin.retInt (X : Stand p l e R s m args below meth c T locs k n) {pc : Nat} {Ls : Array Slot} {z : Int32} (hd : decode c.code pc = .ok (.ireturn, 1)) (hk : k ≤ K) (hn : n ≤ N) (hQ : Q (some (.int z)) T.heap locs) : OwnFin X (some .int) Q K N (mkF m pc Ls [.int z]) :=
  ⟨.ireturn, some (.int z), _, T, locs, k, n, pc, Ls, Or.inl ⟨rfl, z, rfl, rfl, rfl⟩, X, hk, hn, hQ, hd, fun _ k => k⟩
theorem OwnFin.retNar (X : Stand p l e R s m args below meth c T locs k n) {t : FieldType} (ht : t = .boolean ∨ t = .byte ∨ t = .char ∨ t = .short) {pc : Nat} {Ls : Array Slot} {z : Int32} (hd : decode c.code pc = .ok (.ireturn, 1)) (hk : k ≤ K) (hn : n ≤ N) (hQ : Q (some (.int (nar t z))) T.heap locs) : OwnFin X (some t) Q K N (mkF m pc Ls [.int z]) :=
  ⟨.ireturn, some (.int z), _, T, locs, k, n, pc, Ls, Or.inr (Or.inl ⟨rfl, t, z, rfl, ht, rfl, rfl⟩), X, hk, hn, hQ, hd, fun _ k => k⟩
theorem OwnFin.retLong (X : Stand p l e R s m args below meth c T locs k n) {pc : Nat} {Ls : Array Slot} {z : Int64} (hd : decode c.code pc = .ok (.lreturn, 1)) (hk : k ≤ K) (hn : n ≤ N) (hQ : Q (some (.long z)) T.heap locs) : OwnFin X (some .long) Q K N (mkF m pc Ls [.long z]) :=
  ⟨.lreturn, some (.long z), _, T, locs, k, n, pc, Ls, Or.inr (Or.inr (Or.inl ⟨rfl, rfl, z, rfl, rfl⟩)), X, hk, hn, hQ, hd, fun _ k => k⟩
theorem OwnFin.retRef (X : Stand p l e R s m args below meth c T locs k n) {t : FieldType} {u : Value} (ht : t.isReference = true) (hu : u.isRef = true) (hnw : narrow t u = u) {pc : Nat} {Ls : Array Slot} (hd : decode c.code pc = .ok (.areturn, 1)) (hk : k ≤ K) (hn : n ≤ N) (hQ : Q (some u) T.heap locs) : OwnFin X (some t) Q K N (mkF m pc Ls [u]) :=
  ⟨.areturn, some u, _, T, locs, k, n, pc, Ls, Or.inr (Or.inr (Or.inr (Or.inl ⟨rfl, t, u, rfl, ht, hu, hnw, rfl, rfl⟩))), X, hk, hn, hQ, hd, fun _ k => k⟩
theorem OwnFin.retVoid (X : Stand p l e R s m args below meth c T locs k n) {pc : Nat} {Ls : Array Slot} (hd : decode c.code pc = .ok (.return_, 1)) (hk : k ≤ K) (hn : n ≤ N) (hQ : Q none T.heap locs) : OwnFin X none Q K N (mkF m pc Ls []) :=
  ⟨.return_, none, _, T, locs, k, n, pc, Ls, Or.inr (Or.inr (Or.inr (Or.inr ⟨rfl, rfl, rfl, rfl⟩))), X, hk, hn, hQ, hd, fun _ k => k⟩
theorem own_met {y : MethodName} {bytes : ByteArray} {maxL : Nat} {rm : Room} {ws : List Jvm.Cond} {as' : Array Value} {Ls : Array Slot} (hpf : plainFor y = true) (hent : ∀ m, entryFrame m as' maxL = mkF m 0 Ls [])
    (H : ∀ p e s m below meth c s₁ (X : Stand p l e rm s m as' below meth c s₁ [] 0 0), p.tables.exec = Jvm.exec → c.code = bytes → c.maxLocals = maxL → s.vm.findClass y.cls = some m.cls → meth.name = y.name → Z.Warmed39 s.vm → s₁.heap = h0 → OwnFin X ret Q rm.cells rm.slots (mkF m 0 Ls [])) :
    MetFree l y (head1 (Jvm.Cond.code y bytes maxL ret :: ws) rm) (fun a U => a = as' ∧ Z.Warmed39 U.vm ∧ U.heap = h0) (fun _ _ _ _ _ => True) (fun _ U o U' => ∃ v L, o = .returned v ∧ Q v U'.heap L ∧ FrameEnd U o U' L rm.cells rm.slots) := by
  refine MetFree.of_bodySF hpf hisR ?_
  intro p e s m args below meth c s₁ Bd hml0 hP hK
  obtain ⟨rfl, hZ, hh⟩ := hP
  have hx := Bd.exec
  have hby := Bd.bytes
  have hown : s.vm.findClass y.cls = some m.cls := findClass_of_methodNamed Bd.named
  have hnm := (name_of_methodNamed Bd.named Bd.method).1
  have X0 : Stand p l e rm s m args below meth c s₁ [] 0 0 := Stand.of_body Bd
  have e0 : s₁.heap = h0 := by rw [← hh, Bd.state]; rfl
  obtain ⟨i, w, v, T2, locs2, k2, n2, pcr, Ls2, h1, X2, h3, h4, h5, h6, h7⟩ := H p e s m below meth c s₁ X0 hx hby hml0 hown hnm hZ e0
  have hret := Bd.returns
  have hv : meth.sig.returnType = none → v = none := by
    intro q
    rw [hret] at q
    rcases h1 with ⟨-, z, hr, -⟩ | ⟨-, t, z, hr, -⟩ | ⟨-, hr, -⟩ | ⟨-, t, u, hr, -⟩ | ⟨-, -, -, hr⟩
    · rw [hr] at q; cases q
    · rw [hr] at q; cases q
    · rw [hr] at q; cases q
    · rw [hr] at q; cases q
    · exact hr
  obtain ⟨fs, hr, hrun, hended, hW, hsame⟩ := X2.leave (v := v) hv
  refine ⟨_, _, ?_, hrun, hended, _, _, rfl, h5, ⟨_, rfl⟩, hW, hsame.mono h3 h4⟩
  rw [hent]
  apply h7
  rcases h1 with ⟨rfl, z, rfl, rfl, rfl⟩ | ⟨rfl, t, z, rfl, ht, rfl, rfl⟩ | ⟨rfl, rfl, z, rfl, rfl⟩ | ⟨rfl, t, u, rfl, ht, hu, hnw, rfl, rfl⟩ | ⟨rfl, rfl, rfl, rfl⟩
  · exact retI X2 hx hret h6 hr
  · exact retN X2 hx hret ht h6 hr
  · exact retOut X2 hx hret rfl (Or.inr (Or.inl ⟨rfl, rfl, z, rfl⟩)) h6 hr
  · exact retOut X2 hx hret hnw (Or.inr (Or.inr (Or.inr (Or.inr ⟨rfl, ht, hu⟩)))) h6 hr
  · exact X2.returnOut hx hret h6 hr
theorem OwnFin.wide {X : Stand p l e R s m args below meth c T locs k n} {K' N' : Nat} (F : OwnFin X ret Q K N g) (h1 : K ≤ K') (h2 : N ≤ N') : OwnFin X ret Q K' N' g := by
  obtain ⟨i, w, v, T2, locs2, k2, n2, pcr, Ls, q1, q2, q3, q4, q5, q6, q7⟩ := F
  exact ⟨i, w, v, T2, locs2, k2, n2, pcr, Ls, q1, q2, Nat.le_trans q3 h1, Nat.le_trans q4 h2, q5, q6, q7⟩
/-- a callee that leaves the heap alone: what it hands back -/
def PQ (w : Option Value) (h0 : Heap) (n0 : Nat) : Option Value → Heap → List Loc → Prop := fun v h L => v = w ∧ h = h0 ∧ Fr n0 L
def LQ (n0 : Nat) : Option Value → Heap → List Loc → Prop := fun v _ L => v = some (.int 1) ∧ Fr n0 L
theorem own_callS (X : Stand p l e R s m args below meth c T locs k n) (hx : p.tables.exec = Jvm.exec) (hZ : Z.Warmed39 s.vm) {own : String} {index : Nat} {y : MethodName} {bytes : ByteArray} {maxL W : Nat} {rt : Option FieldType} {rm : Room} {argsL rest : List Value} {ps : List FieldType} {r : Option FieldType} {Qc : Option Value → Heap → List Loc → Prop}
    (hown : s.vm.findClass own = some m.cls) (w1 : (Jvm.Cond.methodLink own index y).before a0 Z = true) (w2 : (Jvm.Cond.static y).before a0 Z = true) (w3 : (Jvm.Cond.initialized y.cls).before a0 Z = true) (w4 : (Jvm.Cond.code y bytes maxL rt).before a0 Z = true) (hy : y.cls ≠ "java/lang/invoke/MethodHandle" ∧ y.cls ≠ "java/lang/invoke/VarHandle")
    (hM : MetFree l y (head1 [Jvm.Cond.code y bytes maxL rt] rm) (fun a U => a = argsL.toArray ∧ Z.Warmed39 U.vm ∧ U.heap = h) (fun _ _ _ _ _ => True) (fun _ U o U' => ∃ v L, o = .returned v ∧ Qc v U'.heap L ∧ FrameEnd U o U' L rm.cells rm.slots))
    (hf : rm.frames + 1 ≤ R.frames) (hl : W + (maxL + 11) + rm.locals ≤ R.locals) (hc : k + rm.cells ≤ R.cells) (hs : n + rm.slots ≤ R.slots) (eT : T.heap = h)
    (hg : g.method = m) (hsize : g.locals.size = c.maxLocals) (hd : parseMethodDescriptor y.desc = some ⟨ps, r⟩) (hlen : argsL.length = ps.length) (hstack : g.stack = argsL.reverse ++ rest) (hW : 2 * g.monitorRoom + (rest.map fun v => v.category).sum ≤ W) (hdg : decode c.code g.pc = .ok (.invokestatic index, 3)) :
    ∃ v T' L, Stand p l e R s m args below meth c T' (locs ++ L) (k + rm.cells) (n + rm.slots) ∧ Qc v T'.heap L ∧ ∀ t, Steps p.tables e below (T'.setTop { g with pc := g.pc + 3, stack := v.toList ++ rest }) t → Steps p.tables e below (T.setTop g) t := by
  obtain ⟨v, vm1, ⟨T', L', k', n'⟩, -, X', ⟨Lc, hQ, l1, y1, z1⟩, st⟩ := Jvm.LawKit.callS X hx (y := y) hown (mvT hZ w1) (mvT hZ w2) (mvT hZ w3) (mvT hZ w4) hy (backOf (W := W) hM hZ w4 w3 hf hl) hg hsize (argsL := argsL) (rest := rest) (lenOf hd hlen) hstack hW hdg (fun _ _ => ⟨rfl, eT, hc, hs⟩)
  dsimp only [Pt.U, Pt.locs, Pt.cells, Pt.slots] at X' l1 y1 z1 st hQ
  subst l1 y1 z1
  exact ⟨v, T', Lc, X', hQ, st⟩
theorem own_callI (X : Stand p l e R s m args below meth c T locs k n) (hx : p.tables.exec = Jvm.exec) (hZ : Z.Warmed39 s.vm) {own : String} {index : Nat} {y : MethodName} {bytes : ByteArray} {maxL W : Nat} {rm : Room} {a : Addr} {argsL rest : List Value} {ps : List FieldType} {r : Option FieldType} {Qc : Option Value → Heap → List Loc → Prop}
    (hy1 : y.name = "<init>") (hown : s.vm.findClass own = some m.cls) (w1 : (Jvm.Cond.methodLink own index y).before a0 Z = true) (w2 : (Jvm.Cond.instanceMethod y).before a0 Z = true) (w3 : (Jvm.Cond.initialized y.cls).before a0 Z = true) (w4 : (Jvm.Cond.code y bytes maxL none).before a0 Z = true) (hy : y.cls ≠ "java/lang/invoke/MethodHandle" ∧ y.cls ≠ "java/lang/invoke/VarHandle")
    (hM : MetFree l y (head1 [Jvm.Cond.code y bytes maxL none] rm) (fun a' U => a' = (Value.ref a :: argsL).toArray ∧ Z.Warmed39 U.vm ∧ U.heap = h) (fun _ _ _ _ _ => True) (fun _ U o U' => ∃ v L, o = .returned v ∧ Qc v U'.heap L ∧ FrameEnd U o U' L rm.cells rm.slots))
    (hf : rm.frames + 1 ≤ R.frames) (hl : W + (maxL + 11) + rm.locals ≤ R.locals) (hc : k + rm.cells ≤ R.cells) (hs : n + rm.slots ≤ R.slots) (eT : T.heap = h)
    (hg : g.method = m) (hsize : g.locals.size = c.maxLocals) (hd : parseMethodDescriptor y.desc = some ⟨ps, r⟩) (hlen : argsL.length = ps.length) (hstack : g.stack = argsL.reverse ++ .ref a :: rest) (hW : 2 * g.monitorRoom + (rest.map fun v => v.category).sum ≤ W) (hdg : decode c.code g.pc = .ok (.invokespecial index, 3)) :
    ∃ v T' L, Stand p l e R s m args below meth c T' (locs ++ L) (k + rm.cells) (n + rm.slots) ∧ Qc v T'.heap L ∧ ∀ t, Steps p.tables e below (T'.setTop { g with pc := g.pc + 3, stack := v.toList ++ rest }) t → Steps p.tables e below (T.setTop g) t := by
  obtain ⟨v, vm1, ⟨T', L', k', n'⟩, -, X', ⟨Lc, hQ, l1, y1, z1⟩, st⟩ := X.specialBack hx (y := y) hy1 hown (mvT hZ w1) (mvT hZ w2) (mvT hZ w4) hy (backOf (W := W) hM hZ w4 w3 hf hl) hg hsize (Steps.refl _) (a := a) (argsL := argsL) (rest := rest) (lenOf hd hlen) hstack hW hdg (fun _ _ => ⟨rfl, eT, hc, hs⟩)
  dsimp only [Pt.U, Pt.locs, Pt.cells, Pt.slots] at X' l1 y1 z1 st hQ
  subst l1 y1 z1
  exact ⟨v, T', Lc, X', hQ, fun t k => st.trans k⟩
theorem own_callV (X : Stand p l e R s m args below meth c T locs k n) (hx : p.tables.exec = Jvm.exec) (hZ : Z.Warmed39 s.vm) {own C : String} {index : Nat} {y : MethodName} {bytes : ByteArray} {maxL W : Nat} {rt : Option FieldType} {rm : Room} {a : Addr} {argsL rest : List Value} {ps : List FieldType} {r : Option FieldType} {Qc : Option Value → Heap → List Loc → Prop}
    (hown : s.vm.findClass own = some m.cls) (w1 : (Jvm.Cond.methodLink own index y).before a0 Z = true) (w2 : (Jvm.Cond.declares y).before a0 Z = true) (w5 : (Jvm.Cond.selects C y y).before a0 Z = true) (w6 : (Jvm.Cond.instanceMethod y).before a0 Z = true) (w3 : (Jvm.Cond.initialized y.cls).before a0 Z = true) (w4 : (Jvm.Cond.code y bytes maxL rt).before a0 Z = true) (hy : y.cls ≠ "java/lang/invoke/MethodHandle" ∧ y.cls ≠ "java/lang/invoke/VarHandle")
    (E : Exa Z h a C)
    (hM : MetFree l y (head1 [Jvm.Cond.code y bytes maxL rt] rm) (fun a' U => a' = (Value.ref a :: argsL).toArray ∧ Z.Warmed39 U.vm ∧ U.heap = h) (fun _ _ _ _ _ => True) (fun _ U o U' => ∃ v L, o = .returned v ∧ Qc v U'.heap L ∧ FrameEnd U o U' L rm.cells rm.slots))
    (hf : rm.frames + 1 ≤ R.frames) (hl : W + (maxL + 11) + rm.locals ≤ R.locals) (hc : k + rm.cells ≤ R.cells) (hs : n + rm.slots ≤ R.slots) (eT : T.heap = h)
    (hg : g.method = m) (hsize : g.locals.size = c.maxLocals) (hd : parseMethodDescriptor y.desc = some ⟨ps, r⟩) (hlen : argsL.length = ps.length) (hstack : g.stack = argsL.reverse ++ .ref a :: rest) (hW : 2 * g.monitorRoom + (rest.map fun v => v.category).sum ≤ W) (hdg : decode c.code g.pc = .ok (.invokevirtual index, 3)) :
    ∃ v T' L, Stand p l e R s m args below meth c T' (locs ++ L) (k + rm.cells) (n + rm.slots) ∧ Qc v T'.heap L ∧ ∀ t, Steps p.tables e below (T'.setTop { g with pc := g.pc + 3, stack := v.toList ++ rest }) t → Steps p.tables e below (T.setTop g) t := by
  obtain ⟨cq, kq, q1, q2, q3⟩ := isOf hZ eT E
  obtain ⟨v, vm1, ⟨T', L', k', n'⟩, -, X', ⟨Lc, hQ, l1, y1, z1⟩, st⟩ := X.virtualBack hx (y := y) (z := y) hown (mvT hZ w1) (mvT hZ w2) (notFace_of_selects (args := #[]) (mvT hZ w5)) (mvT hZ w5) (mvT hZ w6) hy (backOf (W := W) hM hZ w4 w3 hf hl) q1 q3 hg hsize (Steps.refl _) (argsL := argsL) (rest := rest) (lenOf hd hlen) hstack hW hdg (fun _ _ => ⟨rfl, eT, hc, hs⟩)
  dsimp only [Pt.U, Pt.locs, Pt.cells, Pt.slots] at X' l1 y1 z1 st hQ
  subst l1 y1 z1
  exact ⟨v, T', Lc, X', hQ, fun t k => st.trans k⟩
theorem lrem_eq_mod (x y : Int64) : x - (x / y) * y = x % y := by
  apply Int64.toInt_inj.mp
  have h1 := Int64.le_toInt (x % y)
  have h2 := Int64.toInt_lt (x % y)
  rw [Int64.toInt_sub, Int64.toInt_mul, Int64.toInt_div, Int.bmod_mul_bmod, Int.sub_bmod_bmod, Int.mul_comm (x.toInt.tdiv y.toInt), ← Int.tmod_def, ← Int64.toInt_mod]
  exact Int.bmod_eq_of_le_mul_two (by omega) (by omega)
theorem lremM (X : Stand p l e R s m args below meth c T locs k n) (hx : p.tables.exec = Jvm.exec) (hg : g.method = m) {x y : Int64} {rest : List Value} (hd : decode c.code g.pc = .ok (.lrem, 1)) (hs : g.stack = .long y :: .long x :: rest) (hy : y ≠ 0) {target : State}
    (hr : Steps p.tables e below (T.setTop { g with pc := g.pc + 1, stack := .long (x % y) :: rest }) target) : Steps p.tables e below (T.setTop g) target := by
  exact XT.lrem X.here hx hg hd hs hy (by rw [lrem_eq_mod]; exact hr)
theorem cl_lt (x y : Int64) : XT.cmpL x y < 0 ↔ x < y := by
  unfold XT.cmpL
  split
  · rename_i q; simp only [Int64.lt_iff_toInt_lt] at *; constructor <;> intro w <;> first | (exact absurd w (by decide)) | omega
  · split
    · rename_i q r; subst r; constructor <;> intro w
      · exact absurd w (by decide)
      · exact absurd w q
    · rename_i q r; constructor <;> intro w
      · simp only [Int64.lt_iff_toInt_lt, ← Int64.toInt_inj] at *; omega
      · decide
theorem cl_gt (x y : Int64) : 0 < XT.cmpL x y ↔ y < x := by
  unfold XT.cmpL
  split
  · rename_i q; exact ⟨fun _ => q, fun _ => by decide⟩
  · rename_i q
    constructor
    · intro w; split at w <;> exact absurd w (by decide)
    · intro w; exact absurd w q
theorem cl_eq (x y : Int64) : XT.cmpL x y = 0 ↔ x = y := by
  unfold XT.cmpL
  split
  · rename_i q; constructor
    · intro w; exact absurd w (by decide)
    · intro w; subst w; simp only [Int64.lt_iff_toInt_lt] at q; omega
  · split
    · rename_i r; exact ⟨fun _ => r, fun _ => rfl⟩
    · rename_i r; constructor
      · intro w; exact absurd w (by decide)
      · intro w; exact absurd w r
end OwnKit
end Jvm.RoadKit
namespace Jvm.RoadKit
open Sem ClassFile Op Lib Jvm.Stand Jvm.Free Jvm.LawKit
section OwnHeap
variable {p : Program} {l : Launch} {e : Env} {R : Room} {s : State} {m : MethodId} {args : Array Value} {below : List Frame} {meth : Method} {c : Code} {T T' : State} {locs locs' : List Loc} {k n k' n' : Nat} {Z : State} {a0 : Array Value} {h h' h0 : Heap} {g : JFrame} {a b : Addr} {ws ws' : List Addr} {n0 : Nat}
theorem keep_ext (E : Ext h h') : Keep h h' [] := (Keep.refl h []).ext E
theorem nin1 {x y : Addr} (q : x ≠ y) : x ∉ [y] := ninS q nin0
/-- an array: its length and what each place holds -/
def Ary (Z : State) (h : Heap) (a : Addr) (ty : FieldType) (n : Nat) (f : Nat → Value) : Prop := ∃ c : Cell, Arr Z h a c ty ∧ c.slots.size = n ∧ n < 2 ^ 31 ∧ ∀ i, i < n → c.slots[i]? = some (f i)
def updN {α : Type} (f : Nat → α) (j : Nat) (v : α) : Nat → α := fun i => if i = j then v else f i
theorem updN_same {α : Type} (f : Nat → α) (j : Nat) (v : α) : updN f j v j = v := if_pos rfl
theorem updN_ne {α : Type} (f : Nat → α) {i j : Nat} (v : α) (q : i ≠ j) : updN f j v i = f i := if_neg q
def InB (j : Int32) (n : Nat) : Prop := ¬ j < 0 ∧ j.toNatClampNeg < n
instance (j : Int32) (n : Nat) : Decidable (InB j n) := inferInstanceAs (Decidable (¬ j < 0 ∧ j.toNatClampNeg < n))
variable {ty : FieldType} {len : Nat} {f : Nat → Value}
theorem Ary.lt (F : Ary Z h a ty len f) : a < h.size := by obtain ⟨c, A, -⟩ := F; exact A.lt
theorem Ary.keep (F : Ary Z h a ty len f) (K : Keep h h' ws) (q : a ∉ ws) : Ary Z h' a ty len f := by
  obtain ⟨c, A, r⟩ := F; exact ⟨c, ⟨K.2.1 a c A.1 q, A.2⟩, r⟩
theorem Ary.small (F : Ary Z h a ty len f) : len < 2 ^ 31 := by obtain ⟨c, A, r1, r2, -⟩ := F; exact r2
theorem Ary.congr {f' : Nat → Value} (F : Ary Z h a ty len f) (q : ∀ i, i < len → f i = f' i) : Ary Z h a ty len f' := by
  obtain ⟨c, A, r1, r2, r3⟩ := F; exact ⟨c, A, r1, r2, fun i hi => by rw [← q i hi]; exact r3 i hi⟩
theorem Ary.wr {v : Value} {j : Nat} (F : Ary Z h a ty len f) (W : Wr h h' a j v) (hj : j < len) : Ary Z h' a ty len (updN f j v) := by
  obtain ⟨c, A, r1, r2, r3⟩ := F
  refine ⟨_, A.same W, by rw [sz_set]; exact r1, r2, fun i hi => ?_⟩
  by_cases q : i = j
  · subst q; rw [updN_same]; simp [Cell.setSlot, r1, hi]
  · rw [updN_ne _ _ q]; simp only [Cell.setSlot]; rw [Array.getElem?_setIfInBounds_ne (Ne.symm q)]; exact r3 i hi
theorem not_in {j : Int32} {n : Nat} (q : InB j n) {c : Cell} (r : c.slots.size = n) : ¬ (j < 0 ∨ c.slots.size ≤ j.toNatClampNeg) := by
  rw [r]; obtain ⟨q1, q2⟩ := q; intro z; rcases z with z | z
  · exact q1 z
  · omega
theorem own_len (X : Stand p l e R s m args below meth c T locs k n) (hx : p.tables.exec = Jvm.exec) (hZ : Z.Warmed39 s.vm) (eT : T.heap = h) (A : Ary Z h a ty len f) {rest : List Value} (hg : g.method = m) (hs : g.stack = .ref a :: rest) (hd : decode c.code g.pc = .ok (.arraylength, 1)) (t : State)
    (hr : Steps p.tables e below (T.setTop { g with pc := g.pc + 1, stack := .int len.toInt32 :: rest }) t) : Steps p.tables e below (T.setTop g) t := by
  obtain ⟨cl, A1, r1, r2, r3⟩ := A
  refine X.arraylength hx (by rw [eT]; exact A1.1) (State.isArrayOf_alike hZ.alike A1.2.1) hg hs hd t ?_
  rw [r1]; exact hr
theorem own_ldI (X : Stand p l e R s m args below meth c T locs k n) (hx : p.tables.exec = Jvm.exec) (hZ : Z.Warmed39 s.vm) (eT : T.heap = h) (A : Ary Z h a .int len f) {j : Int32} (hj : InB j len) {v : Value} (hv : f j.toNatClampNeg = v) {rest : List Value} (hg : g.method = m) (hs : g.stack = .int j :: .ref a :: rest) (hd : decode c.code g.pc = .ok (.iaload, 1)) (t : State)
    (hr : Steps p.tables e below (T.setTop { g with pc := g.pc + 1, stack := v :: rest }) t) : Steps p.tables e below (T.setTop g) t := by
  obtain ⟨cl, A1, r1, r2, r3⟩ := A
  exact X.iaload hx (by rw [eT]; exact A1.1) (State.isArrayOf_alike hZ.alike A1.2.1) A1.2.2 (not_in hj r1) (by rw [r3 _ hj.2, hv]) hg hs hd t hr
theorem own_ldJ (X : Stand p l e R s m args below meth c T locs k n) (hx : p.tables.exec = Jvm.exec) (hZ : Z.Warmed39 s.vm) (eT : T.heap = h) (A : Ary Z h a .long len f) {j : Int32} (hj : InB j len) {v : Value} (hv : f j.toNatClampNeg = v) {rest : List Value} (hg : g.method = m) (hs : g.stack = .int j :: .ref a :: rest) (hd : decode c.code g.pc = .ok (.laload, 1)) (t : State)
    (hr : Steps p.tables e below (T.setTop { g with pc := g.pc + 1, stack := v :: rest }) t) : Steps p.tables e below (T.setTop g) t := by
  obtain ⟨cl, A1, r1, r2, r3⟩ := A
  exact X.laload hx (by rw [eT]; exact A1.1) (State.isArrayOf_alike hZ.alike A1.2.1) A1.2.2 (not_in hj r1) (by rw [r3 _ hj.2, hv]) hg hs hd t hr
theorem own_ldC (X : Stand p l e R s m args below meth c T locs k n) (hx : p.tables.exec = Jvm.exec) (hZ : Z.Warmed39 s.vm) (eT : T.heap = h) (A : Ary Z h a .char len f) {j : Int32} (hj : InB j len) {v : Value} (hv : f j.toNatClampNeg = v) {rest : List Value} (hg : g.method = m) (hs : g.stack = .int j :: .ref a :: rest) (hd : decode c.code g.pc = .ok (.caload, 1)) (t : State)
    (hr : Steps p.tables e below (T.setTop { g with pc := g.pc + 1, stack := v :: rest }) t) : Steps p.tables e below (T.setTop g) t := by
  obtain ⟨cl, A1, r1, r2, r3⟩ := A
  exact X.caload hx (by rw [eT]; exact A1.1) (State.isArrayOf_alike hZ.alike A1.2.1) A1.2.2 (not_in hj r1) (by rw [r3 _ hj.2, hv]) hg hs hd t hr
theorem own_ldB (X : Stand p l e R s m args below meth c T locs k n) (hx : p.tables.exec = Jvm.exec) (hZ : Z.Warmed39 s.vm) (eT : T.heap = h) (A : Ary Z h a .byte len f) {j : Int32} (hj : InB j len) {v : Value} (hv : f j.toNatClampNeg = v) {rest : List Value} (hg : g.method = m) (hs : g.stack = .int j :: .ref a :: rest) (hd : decode c.code g.pc = .ok (.baload, 1)) (t : State)
    (hr : Steps p.tables e below (T.setTop { g with pc := g.pc + 1, stack := v :: rest }) t) : Steps p.tables e below (T.setTop g) t := by
  obtain ⟨cl, A1, r1, r2, r3⟩ := A
  exact X.baloadBytes hx (by rw [eT]; exact A1.1) (State.isArrayOf_alike hZ.alike A1.2.1) A1.2.2 (not_in hj r1) (by rw [r3 _ hj.2, hv]) hg hs hd t hr
theorem own_ldA (X : Stand p l e R s m args below meth c T locs k n) (hx : p.tables.exec = Jvm.exec) (hZ : Z.Warmed39 s.vm) (eT : T.heap = h) (A : Ary Z h a ty len f) (hty : ty.isReference = true) {j : Int32} (hj : InB j len) {v : Value} (hv : f j.toNatClampNeg = v) {rest : List Value} (hg : g.method = m) (hs : g.stack = .int j :: .ref a :: rest) (hd : decode c.code g.pc = .ok (.aaload, 1)) (t : State)
    (hr : Steps p.tables e below (T.setTop { g with pc := g.pc + 1, stack := v :: rest }) t) : Steps p.tables e below (T.setTop g) t := by
  obtain ⟨cl, A1, r1, r2, r3⟩ := A
  exact X.aaload hx (by rw [eT]; exact A1.1) (State.isArrayOf_alike hZ.alike A1.2.1) hty A1.2.2 (not_in hj r1) (by rw [r3 _ hj.2, hv]) hg hs hd t hr
theorem own_stI (X : Stand p l e R s m args below meth c T locs k n) (hx : p.tables.exec = Jvm.exec) (hZ : Z.Warmed39 s.vm) (eT : T.heap = h) (N : Fr n0 locs) {G : Nat → Int32} (A : Ary Z h a .int len (fun i => .int (G i))) (ga : n0 ≤ a) {j x : Int32} (hj : InB j len) {rest : List Value} (hg : g.method = m) (hs : g.stack = .int x :: .int j :: .ref a :: rest) (hd : decode c.code g.pc = .ok (.iastore, 1)) :
    ∃ (T' : State) (h' : Heap) (locs' : List Loc), Stand p l e R s m args below meth c T' locs' k n ∧ T'.heap = h' ∧ Fr n0 locs' ∧ Keep h h' [a] ∧ Ary Z h' a .int len (fun i => .int (updN G j.toNatClampNeg x i)) ∧ ∀ t, Steps p.tables e below (T'.setTop { g with pc := g.pc + 1, stack := rest }) t → Steps p.tables e below (T.setTop g) t := by
  obtain ⟨cl, A1, r⟩ := A
  obtain ⟨T', h', X', e', W, st⟩ := stI X hx hZ eT A1 (not_in hj r.1) hg hs hd
  exact ⟨T', h', _, X', e', Fr.snoc X' N ga, Keep.of_wr W, (Ary.wr ⟨cl, A1, r⟩ W hj.2).congr (fun i _ => by unfold updN; split <;> rfl), st⟩
theorem own_stJ (X : Stand p l e R s m args below meth c T locs k n) (hx : p.tables.exec = Jvm.exec) (hZ : Z.Warmed39 s.vm) (eT : T.heap = h) (N : Fr n0 locs) {G : Nat → Int64} (A : Ary Z h a .long len (fun i => .long (G i))) (ga : n0 ≤ a) {j : Int32} {x : Int64} (hj : InB j len) {rest : List Value} (hg : g.method = m) (hs : g.stack = .long x :: .int j :: .ref a :: rest) (hd : decode c.code g.pc = .ok (.lastore, 1)) :
    ∃ (T' : State) (h' : Heap) (locs' : List Loc), Stand p l e R s m args below meth c T' locs' k n ∧ T'.heap = h' ∧ Fr n0 locs' ∧ Keep h h' [a] ∧ Ary Z h' a .long len (fun i => .long (updN G j.toNatClampNeg x i)) ∧ ∀ t, Steps p.tables e below (T'.setTop { g with pc := g.pc + 1, stack := rest }) t → Steps p.tables e below (T.setTop g) t := by
  obtain ⟨cl, A1, r⟩ := A
  obtain ⟨T', h', X', e', W, st⟩ := stJ X hx hZ eT A1 (not_in hj r.1) hg hs hd
  exact ⟨T', h', _, X', e', Fr.snoc X' N ga, Keep.of_wr W, (Ary.wr ⟨cl, A1, r⟩ W hj.2).congr (fun i _ => by unfold updN; split <;> rfl), st⟩
theorem own_stC (X : Stand p l e R s m args below meth c T locs k n) (hx : p.tables.exec = Jvm.exec) (hZ : Z.Warmed39 s.vm) (eT : T.heap = h) (N : Fr n0 locs) {G : Nat → Int32} (A : Ary Z h a .char len (fun i => .int (G i))) (ga : n0 ≤ a) {j x : Int32} (hj : InB j len) {rest : List Value} (hg : g.method = m) (hs : g.stack = .int x :: .int j :: .ref a :: rest) (hd : decode c.code g.pc = .ok (.castore, 1)) :
    ∃ (T' : State) (h' : Heap) (locs' : List Loc), Stand p l e R s m args below meth c T' locs' k n ∧ T'.heap = h' ∧ Fr n0 locs' ∧ Keep h h' [a] ∧ Ary Z h' a .char len (fun i => .int (updN G j.toNatClampNeg (nar .char x) i)) ∧ ∀ t, Steps p.tables e below (T'.setTop { g with pc := g.pc + 1, stack := rest }) t → Steps p.tables e below (T.setTop g) t := by
  obtain ⟨cl, A1, r⟩ := A
  obtain ⟨T', h', X', e', W, st⟩ := stC X hx hZ eT A1 (not_in hj r.1) hg hs hd
  exact ⟨T', h', _, X', e', Fr.snoc X' N ga, Keep.of_wr W, (Ary.wr ⟨cl, A1, r⟩ W hj.2).congr (fun i _ => by unfold updN; split <;> rfl), st⟩
theorem own_stB (X : Stand p l e R s m args below meth c T locs k n) (hx : p.tables.exec = Jvm.exec) (hZ : Z.Warmed39 s.vm) (eT : T.heap = h) (N : Fr n0 locs) {G : Nat → Int32} (A : Ary Z h a .byte len (fun i => .int (G i))) (ga : n0 ≤ a) {j x : Int32} (hj : InB j len) {rest : List Value} (hg : g.method = m) (hs : g.stack = .int x :: .int j :: .ref a :: rest) (hd : decode c.code g.pc = .ok (.bastore, 1)) :
    ∃ (T' : State) (h' : Heap) (locs' : List Loc), Stand p l e R s m args below meth c T' locs' k n ∧ T'.heap = h' ∧ Fr n0 locs' ∧ Keep h h' [a] ∧ Ary Z h' a .byte len (fun i => .int (updN G j.toNatClampNeg (nar .byte x) i)) ∧ ∀ t, Steps p.tables e below (T'.setTop { g with pc := g.pc + 1, stack := rest }) t → Steps p.tables e below (T.setTop g) t := by
  obtain ⟨cl, A1, r⟩ := A
  obtain ⟨T', h', X', e', W, st⟩ := stB X hx hZ eT A1 (not_in hj r.1) hg hs hd
  exact ⟨T', h', _, X', e', Fr.snoc X' N ga, Keep.of_wr W, (Ary.wr ⟨cl, A1, r⟩ W hj.2).congr (fun i _ => by unfold updN; split <;> rfl), st⟩
/-- newarray of a length that is not negative and at most cap -/
theorem own_new (X : Stand p l e R s m args below meth c T locs k n) (hx : p.tables.exec = Jvm.exec) (hZ : Z.Warmed39 s.vm) {aty : ArrayType} (w : (Jvm.Cond.arrayClass (newarray.typeOf aty)).before a0 Z = true) (eT : T.heap = h) (hg : g.method = m) (hd : decode c.code g.pc = .ok (.newarray aty, 2)) {z : Int32} {rest : List Value} (hs : g.stack = .int z :: rest)
    (hn : ¬ z < 0) {cap : Nat} (hcap : z.toNatClampNeg ≤ cap) (hb : cap * 8 ≤ 536870912) (hc : k + 1 ≤ R.cells) (hl : n + cap ≤ R.slots) :
    ∃ (T' : State) (h' : Heap) (a : Addr), Stand p l e R s m args below meth c T' locs (k + 1) (n + cap) ∧ T'.heap = h' ∧ a = h.size ∧ Keep h h' [] ∧ Ary Z h' a (newarray.typeOf aty) z.toNatClampNeg (fun _ => defaultValue (newarray.typeOf aty)) ∧
      ∀ t, Steps p.tables e below (T'.setTop { g with pc := g.pc + 2, stack := .ref a :: rest }) t → Steps p.tables e below (T.setTop g) t := by
  obtain ⟨T', h', cA, X', e', E, A, st⟩ := newP X hx hZ w eT hg hd hs hn hcap hb hc hl
  refine ⟨T', h', _, X', e', rfl, keep_ext E, ⟨_, A, sz_new _ _ _, ?_, fun i hi => ?_⟩, st⟩
  · exact (back32 hn).2
  · simp [newA, hi]
/-- an object's field written: the heap, what is kept, the field -/
theorem own_putF (X : Stand p l e R s m args below meth c T locs k n) (hx : p.tables.exec = Jvm.exec) (hZ : Z.Warmed39 s.vm) {own O nm d C : String} {index kk : Nat} {fty : FieldType} (hown : s.vm.findClass own = some m.cls) (w : (Jvm.Cond.fieldLink own index O nm d).before a0 Z = true)
    (eT : T.heap = h) (N : Fr n0 locs) {u v : Value} (F : Fld Z h a O nm d u) (E : Exa Z h a C) (ga : n0 ≤ a) (lw : (Jvm.Cond.lays C O nm d).before a0 Z = true ∨ ((Jvm.Cond.laysFinal C O nm d).before a0 Z = true ∧ own = O ∧ meth.name = "<init>")) (wi : (Jvm.Cond.instantiable C kk).before a0 Z = true)
    (hty : parseFieldDescriptor d = some fty) (hn : narrow fty v = v) (hf : fits fty v = true) {rest : List Value} (hg : g.method = m) (hs : g.stack = v :: .ref a :: rest) (hd : decode c.code g.pc = .ok (.putfield index, 3)) :
    ∃ (T' : State) (h' : Heap) (locs' : List Loc), Stand p l e R s m args below meth c T' locs' k n ∧ T'.heap = h' ∧ Fr n0 locs' ∧ Wr h h' a (slotOf Z O nm d) v ∧ Fld Z h' a O nm d v ∧ ∀ t, Steps p.tables e below (T'.setTop { g with pc := g.pc + 3, stack := rest }) t → Steps p.tables e below (T.setTop g) t := by
  obtain ⟨T', h', X', e', W, st⟩ := putF X hx hZ hown (host := "") (Or.inl w) Via.refl eT F E lw wi (ty := fty) hty hn hf hg hs hd
  exact ⟨T', h', _, X', e', Fr.snoc X' N ga, W, F.same W, st⟩
theorem Exa.neS {C : String} (F : Exa Z h a C) (q : b = h.size) : a ≠ b := by
  have r := Exa.lt F; intro z; rw [z, q] at r; exact Nat.lt_irrefl _ r
theorem Ary.neS (F : Ary Z h a ty len f) (q : b = h.size) : a ≠ b := by
  have r := Ary.lt F; intro z; rw [z, q] at r; exact Nat.lt_irrefl _ r
end OwnHeap
end Jvm.RoadKit
namespace Jvm.RoadKit
open Sem ClassFile Op Lib Jvm.Stand Jvm.Free Jvm.LawKit
section OwnNum
theorem i32lt (x y : Int32) : x < y ↔ x.toInt < y.toInt := Int32.lt_iff_toInt_lt
theorem i32eq (x y : Int32) : x = y ↔ x.toInt = y.toInt := Int32.toInt_inj.symm
theorem i64lt (x y : Int64) : x < y ↔ x.toInt < y.toInt := Int64.lt_iff_toInt_lt
theorem i64eq (x y : Int64) : x = y ↔ x.toInt = y.toInt := Int64.toInt_inj.symm
theorem nar0 : nar .boolean 0 = 0 := by decide
theorem nar1 : nar .boolean 1 = 1 := by decide
theorem narI (P : Prop) [Decidable P] : nar .boolean (if P then 1 else 0) = if P then 1 else 0 := by split <;> decide
theorem ushr_pos {x y : Int32} (hx : 0 ≤ x.toInt) {k : Nat} (hn : (y &&& 31).toUInt32.toNat = k) (hk : k < 32) : (XT.ushr x y).toInt = x.toInt / 2 ^ k :=
  Jvm.Kit.i32_iushr (Jvm.Kit.i32_nonneg.mpr hx) hn hk
theorem ushr_nat (x y : Int32) {k : Nat} (hn : (y &&& 31).toUInt32.toNat = k) (h1 : 0 < k) (hk : k < 32) : (XT.ushr x y).toInt = (x.toBitVec.toNat / 2 ^ k : Nat) := by
  have e1 : (XT.ushr x y).toBitVec.toNat = x.toBitVec.toNat / 2 ^ k := by
    show (x.toUInt32 >>> (y &&& 31).toUInt32).toNat = _
    rw [UInt32.toNat_shiftRight, hn, Nat.mod_eq_of_lt hk, Nat.shiftRight_eq_div_pow]
    rfl
  have e2 := x.toBitVec.isLt
  have e3 : x.toBitVec.toNat / 2 ^ k < 2 ^ 31 := by
    apply Nat.div_lt_of_lt_mul
    calc x.toBitVec.toNat < 2 ^ 32 := e2
      _ ≤ 2 ^ k * 2 ^ 31 := by rw [← Nat.pow_add]; exact Nat.pow_le_pow_right (by omega) (by omega)
  show (XT.ushr x y).toBitVec.toInt = _
  rw [BitVec.toInt_eq_toNat_of_lt (by rw [e1]; omega), e1]
theorem inb_of_toInt {j : Int32} {n : Nat} (h1 : 0 ≤ j.toInt) (h2 : j.toInt < n) : InB j n := by
  refine ⟨?_, ?_⟩
  · rw [i32lt]; show ¬ j.toInt < 0; omega
  · simp only [Int32.toNatClampNeg]; omega
theorem or32_nat (n : Nat) : n ||| 32 = n + (if n % 64 < 32 then 32 else 0) := by
  have h1 : (n ||| 32) % 2 ^ 6 = (n % 2 ^ 6) ||| (32 % 2 ^ 6) := Nat.or_mod_two_pow
  have h2 : (n ||| 32) / 2 ^ 6 = n / 2 ^ 6 := by
    rw [← Nat.shiftRight_eq_div_pow, Nat.shiftRight_or_distrib, ← Nat.shiftRight_eq_div_pow]
    simp
  have h3 : ∀ r : Fin 64, r.val ||| 32 = if r.val < 32 then r.val + 32 else r.val := by decide
  have h4 := h3 ⟨n % 64, Nat.mod_lt _ (by omega)⟩
  simp only at h4
  have h5 : (n % 2 ^ 6) ||| (32 % 2 ^ 6) = (n % 64) ||| 32 := rfl
  rw [h5, h4] at h1
  split at h1 <;> split <;> omega
theorem or32 (c : Int32) : (c ||| 32).toInt = c.toInt + (if c.toInt % 64 < 32 then 32 else 0) := by
  have e1 : (c ||| 32).toBitVec.toNat = c.toBitVec.toNat ||| 32 := by simp [BitVec.toNat_or]
  have e2 : c.toInt = c.toBitVec.toInt := rfl
  have e3 : (c ||| 32).toInt = (c ||| 32).toBitVec.toInt := rfl
  have e4 := c.toBitVec.isLt
  have e5 := (c ||| 32).toBitVec.isLt
  rw [e2, e3, BitVec.toInt_eq_toNat_cond, BitVec.toInt_eq_toNat_cond, e1, or32_nat]
  rw [e1, or32_nat] at e5
  split at e5 <;> split <;> split <;> split <;> omega
theorem i2c_toInt (x : Int32) : (x.toUInt32.toUInt16.toUInt32.toInt32).toInt = x.toInt % 65536 := by
  have e1 : (x.toUInt32.toUInt16.toUInt32.toInt32).toBitVec.toNat = x.toBitVec.toNat % 65536 := by
    show (x.toUInt32.toUInt16.toUInt32).toNat = _
    simp
    rfl
  have e2 := x.toBitVec.isLt
  have e3 : x.toInt = x.toBitVec.toInt := rfl
  have e4 : (x.toUInt32.toUInt16.toUInt32.toInt32).toInt = (x.toUInt32.toUInt16.toUInt32.toInt32).toBitVec.toInt := rfl
  rw [e3, e4, BitVec.toInt_eq_toNat_cond, BitVec.toInt_eq_toNat_cond, e1]
  split <;> split <;> omega
theorem mulbd {a b : Int} (h1 : 0 ≤ a) (h2 : a ≤ 2147483648) (h3 : 0 ≤ b) (h4 : b ≤ 2147483648) : 0 ≤ a * b ∧ a * b ≤ 4611686018427387904 := by
  refine ⟨Int.mul_nonneg h1 h3, ?_⟩
  have h : a * b ≤ 2147483648 * 2147483648 := Int.mul_le_mul h2 h4 h3 (by omega)
  omega
theorem mul64g {x y : Int64} (h1 : 0 ≤ x.toInt) (h2 : x.toInt ≤ 2147483648) (h3 : 0 ≤ y.toInt) (h4 : y.toInt ≤ 2147483648) : (x * y).toInt = x.toInt * y.toInt := by
  obtain ⟨b1, b2⟩ := mulbd h1 h2 h3 h4
  exact Jvm.Kit.i64_mul (by omega) (by omega)
theorem mul64 {x y : Int32} (h1 : 0 ≤ x.toInt) (h3 : 0 ≤ y.toInt) : (x.toInt64 * y.toInt64).toInt = x.toInt * y.toInt := by
  have e1 := Jvm.Kit.i64_of_i32 x
  have e2 := Jvm.Kit.i64_of_i32 y
  have b1 := Int32.toInt_lt x
  have b2 := Int32.toInt_lt y
  rw [mul64g (by omega) (by omega) (by omega) (by omega), e1, e2]
/-- the quotient q of a by b: b * q ≤ a < b * q + b -/
theorem quot {a b : Int} (hb : 0 < b) : b * (a / b) ≤ a ∧ a < b * (a / b) + b := by
  have h1 := Int.emod_def a b
  have h2 := Int.emod_nonneg a (show b ≠ 0 by omega)
  have h3 := Int.emod_lt_of_pos a hb
  omega
theorem div64 {x y : Int64} (h1 : 0 ≤ x.toInt) (h2 : 0 < y.toInt) : (x / y).toInt = x.toInt / y.toInt := by
  rw [Jvm.Kit.i64_div (by omega), Int.tdiv_eq_ediv_of_nonneg h1]
theorem mask31 (x : Int32) : (x &&& 2147483647).toInt = x.toInt % 2147483648 := by
  have := Jvm.Kit.i32_mask x 2147483647 (k := 31) (by decide) (by decide)
  omega
theorem rem32 {x y : Int32} (h : 0 ≤ x.toInt) (h2 : 0 < y.toInt) : 0 ≤ (x % y).toInt ∧ (x % y).toInt < y.toInt := by
  rw [Jvm.Kit.i32_rem_nonneg h]
  exact ⟨Int.emod_nonneg _ (by omega), Int.emod_lt_of_pos _ h2⟩
end OwnNum
end Jvm.RoadKit
namespace Jvm.Pilot.@@N@@
open Jvm Jvm.ClassFile Sem Op Lib Jvm.Free Jvm.Stand Jvm.LawKit Jvm.RoadKit Bundle Jvm.Pilot.@@N@@.Jvm.D
/-! body 1: java/lang/Math.max:(II)I -/
theorem d1_0 : decode jdk_29_method_65_code 0 = .ok (.iload_n 0, 1) := by decide +kernel
theorem d1_1 : decode jdk_29_method_65_code 1 = .ok (.iload_n 1, 1) := by decide +kernel
theorem d1_2 : decode jdk_29_method_65_code 2 = .ok (.if_icmp .lt 7, 3) := by decide +kernel
theorem d1_5 : decode jdk_29_method_65_code 5 = .ok (.iload_n 0, 1) := by decide +kernel
theorem d1_6 : decode jdk_29_method_65_code 6 = .ok (.goto 4, 3) := by decide +kernel
theorem d1_9 : decode jdk_29_method_65_code 9 = .ok (.iload_n 1, 1) := by decide +kernel
theorem d1_10 : decode jdk_29_method_65_code 10 = .ok (.ireturn, 1) := by decide +kernel
theorem ef_1 (m : MethodId) (p0 : Int32) (p1 : Int32) : entryFrame m #[(.int p0), (.int p1)] 2 = mkF m 0 #[.val (.int p0), .val (.int p1)] [] := by first | (simp [entryFrame, mkF, argsToLocals, Value.category]; done) | rfl
def f1_0 (p0 : Int32) (p1 : Int32) : Int32 := (if p0 < p1 then p1 else p0)
set_option maxRecDepth 65536 in
set_option maxHeartbeats 40000000 in
theorem j1_0 {p : Program} {l : Launch} {e : Env} {s : State} {m : MethodId} {args : Array Value} {below : List Frame} {meth : Method} {c : Code} {T0 : State} {locs : List Loc} {Z : State} {a0 : Array Value} {h0 : Heap} {n0 : Nat}
    (X0 : Stand p l e ({ frames := 0, cells := 0, slots := 0, locals := 0 } : Room) s m args below meth c T0 locs 0 0) (hx : p.tables.exec = Jvm.exec) (hZ : Z.Warmed39 s.vm) (hw : ∀ d ∈ tables_1, d.before a0 Z = true) (hby : c.code = jdk_29_method_65_code) (hml : c.maxLocals = 2) (hown : s.vm.findClass "java/lang/Math" = some m.cls) (e0 : T0.heap = h0) (N0 : Fr n0 locs) (Z0 : n0 ≤ h0.size) (p0 : Int32) (p1 : Int32) :
    OwnFin X0 (some .int) (PQ (some (.int (f1_0 p0 p1))) h0 n0) 0 0 (mkF m 0 #[.val (.int p0), .val (.int p1)] []) := by
  show OwnFin X0 (some .int) (PQ (some (.int (if p0 < p1 then p1 else p0))) h0 n0) 0 0 _
  refine OwnFin.step (g' := (mkF m 1 #[.val (.int p0), .val (.int p1)] [(.int p0)])) X0 (fun t k => XS.iloadN X0.here hx rfl (hb hby d1_0) rfl k) ?_
  refine OwnFin.step (g' := (mkF m 2 #[.val (.int p0), .val (.int p1)] [(.int p1), (.int p0)])) X0 (fun t k => XS.iloadN X0.here hx rfl (hb hby d1_1) rfl k) ?_
  by_cases hc1 : p0 < p1
  · rw [if_pos hc1]
    refine OwnFin.step (g' := (mkF m 9 #[.val (.int p0), .val (.int p1)] [])) X0 (fun t k => XS.icmpYes X0.here hx rfl (pc0 := 2) (pc' := 9) rfl (hb hby d1_2) rfl (tlt hc1).1 (by decide) (by decide) k) ?_
    refine OwnFin.step (g' := (mkF m 10 #[.val (.int p0), .val (.int p1)] [(.int p1)])) X0 (fun t k => XS.iloadN X0.here hx rfl (hb hby d1_9) rfl k) ?_
    exact OwnFin.retInt X0 (hb hby d1_10) (Nat.le_refl _) (Nat.le_refl _) ⟨rfl, e0, N0⟩
  · rw [if_neg hc1]
    refine OwnFin.step (g' := (mkF m 5 #[.val (.int p0), .val (.int p1)] [])) X0 (fun t k => XS.icmpNo X0.here hx rfl (hb hby d1_2) rfl (flt hc1).1 k) ?_
    refine OwnFin.step (g' := (mkF m 6 #[.val (.int p0), .val (.int p1)] [(.int p0)])) X0 (fun t k => XS.iloadN X0.here hx rfl (hb hby d1_5) rfl k) ?_
    refine OwnFin.step (g' := (mkF m 10 #[.val (.int p0), .val (.int p1)] [(.int p0)])) X0 (fun t k => XS.goto X0.here hx rfl (pc0 := 6) (pc' := 10) rfl (hb hby d1_6) (by decide) (by decide) k) ?_
    exact OwnFin.retInt X0 (hb hby d1_10) (Nat.le_refl _) (Nat.le_refl _) ⟨rfl, e0, N0⟩
def r1 (p0 : Int32) (p1 : Int32) : Int32 := f1_0 p0 p1
set_option maxRecDepth 65536 in
set_option maxHeartbeats 40000000 in
theorem rm1 (l : Launch) (Z : State) (a0 : Array Value) (hw : ∀ d ∈ tables_1, d.before a0 Z = true) (ws : List Jvm.Cond) (p0 : Int32) (p1 : Int32) (h0 : Heap) (n0 : Nat) (Z0 : n0 ≤ h0.size) :
    MetFree l (⟨"java/lang/Math", "max", "(II)I"⟩ : MethodName) (head1 (Jvm.Cond.code (⟨"java/lang/Math", "max", "(II)I"⟩ : MethodName) jdk_29_method_65_code 2 (some .int) :: ws) ({ frames := 0, cells := 0, slots := 0, locals := 0 } : Room)) (fun a U => a = #[(.int p0), (.int p1)] ∧ Z.Warmed39 U.vm ∧ U.heap = h0) (fun _ _ _ _ _ => True) (fun _ U o U' => ∃ v L, o = .returned v ∧ PQ (some (.int (r1 p0 p1))) h0 n0 v U'.heap L ∧ FrameEnd U o U' L ({ frames := 0, cells := 0, slots := 0, locals := 0 } : Room).cells ({ frames := 0, cells := 0, slots := 0, locals := 0 } : Room).slots) :=
  own_met (ret := (some .int)) (Jvm.Free.JP.mathPlain rfl (by decide +kernel)) (fun m => ef_1 m p0 p1) (fun p e s m below meth c s₁ X hx hby hml hown hnm hZ e0 => OwnFin.wide (j1_0 X hx hZ hw hby hml hown e0 (Fr.nil n0) Z0 p0 p1) (Nat.zero_le _) (Nat.zero_le _))
theorem d2_0 : decode prog_79_method_1_code 0 = .ok (.aload_n 0, 1) := by decide +kernel
theorem d2_1 : decode prog_79_method_1_code 1 = .ok (.invokespecial 1, 3) := by decide +kernel
theorem d2_4 : decode prog_79_method_1_code 4 = .ok (.aload_n 0, 1) := by decide +kernel
theorem d2_5 : decode prog_79_method_1_code 5 = .ok (.iload_n 1, 1) := by decide +kernel
theorem d2_6 : decode prog_79_method_1_code 6 = .ok (.putfield 7, 3) := by decide +kernel
theorem d2_9 : decode prog_79_method_1_code 9 = .ok (.aload_n 0, 1) := by decide +kernel
theorem d2_10 : decode prog_79_method_1_code 10 = .ok (.iload_n 2, 1) := by decide +kernel
theorem d2_11 : decode prog_79_method_1_code 11 = .ok (.putfield 13, 3) := by decide +kernel
theorem d2_14 : decode prog_79_method_1_code 14 = .ok (.return_, 1) := by decide +kernel
theorem pn_2 : plainName "latchwork/scenario/ValueRanges" = true := by first | (simp [plainName, overriddenIn]; done) | decide +kernel
theorem ef_2 (m : MethodId) (o0 : Addr) (p1 : Int32) (p2 : Int32) : entryFrame m #[(.ref o0), (.int p1), (.int p2)] 3 = mkF m 0 #[.val (.ref o0), .val (.int p1), .val (.int p2)] [] := by first | (simp [entryFrame, mkF, argsToLocals, Value.category]; done) | rfl
def Q2 (Z : State) (o0 : Addr) (p1 : Int32) (p2 : Int32) (h0 : Heap) (n0 : Nat) : Option Value → Heap → List Loc → Prop := fun v h L => v = none ∧ Fr n0 L ∧ Keep h0 h [o0] ∧ Exa Z h o0 "latchwork/scenario/ValueRanges" ∧ Fld Z h o0 "latchwork/scenario/ValueRanges" "total" "I" (.int p1) ∧ Fld Z h o0 "latchwork/scenario/ValueRanges" "producers" "I" (.int p2)
set_option maxRecDepth 65536 in
set_option maxHeartbeats 40000000 in
theorem j2 {p : Program} {l : Launch} {e : Env} {s : State} {m : MethodId} {args : Array Value} {below : List Frame} {meth : Method} {c : Code} {T0 : State} {locs : List Loc} {Z : State} {a0 : Array Value} {h0 : Heap} {n0 : Nat}
    (X0 : Stand p l e ({ frames := 1, cells := 0, slots := 0, locals := 12 } : Room) s m args below meth c T0 locs 0 0) (hx : p.tables.exec = Jvm.exec) (hZ : Z.Warmed39 s.vm) (hw : ∀ d ∈ tables_1, d.before a0 Z = true) (hby : c.code = prog_79_method_1_code) (hml : c.maxLocals = 3) (hown : s.vm.findClass "latchwork/scenario/ValueRanges" = some m.cls) (hnm : meth.name = "<init>") (e0 : T0.heap = h0) (N0 : Fr n0 locs) (Z0 : n0 ≤ h0.size) (o0 : Addr) (p1 : Int32) (p2 : Int32) (E_o0 : Exa Z h0 o0 "latchwork/scenario/ValueRanges") (g_o0 : n0 ≤ o0) (F_total_o0 : Fld Z h0 o0 "latchwork/scenario/ValueRanges" "total" "I" (.int (0 : Int32))) (F_producers_o0 : Fld Z h0 o0 "latchwork/scenario/ValueRanges" "producers" "I" (.int (0 : Int32))) :
    OwnFin X0 none (Q2 Z o0 p1 p2 h0 n0) ({ frames := 1, cells := 0, slots := 0, locals := 12 } : Room).cells ({ frames := 1, cells := 0, slots := 0, locals := 12 } : Room).slots (mkF m 0 #[.val (.ref o0), .val (.int p1), .val (.int p2)] []) := by
  refine OwnFin.step (g' := (mkF m 1 #[.val (.ref o0), .val (.int p1), .val (.int p2)] [(.ref o0)])) X0 (fun t k => XS.aloadN X0.here hx rfl (hb hby d2_0) rfl rfl k) ?_
  obtain ⟨T1, X1, e1, st1⟩ := initO X0 hx hZ hown (hw _ (List.mem_of_getElem? (i := 11) rfl)) (hw _ (List.mem_of_getElem? (i := 12) rfl)) (hw _ (List.mem_of_getElem? (i := 13) rfl)) e0 (g := (mkF m 1 #[.val (.ref o0), .val (.int p1), .val (.int p2)] [(.ref o0)])) rfl (by rw [hml]; rfl) rfl (hb hby d2_1) (by decide) (W := 0) (by show 2 * 0 + _ ≤ _; exact Nat.le_of_eq rfl) (by decide)
  refine OwnFin.step (g' := (mkF m 4 #[.val (.ref o0), .val (.int p1), .val (.int p2)] [])) X1 (fun t k => st1 _ k) ?_
  refine OwnFin.step (g' := (mkF m 5 #[.val (.ref o0), .val (.int p1), .val (.int p2)] [(.ref o0)])) X1 (fun t k => XS.aloadN X1.here hx rfl (hb hby d2_4) rfl rfl k) ?_
  refine OwnFin.step (g' := (mkF m 6 #[.val (.ref o0), .val (.int p1), .val (.int p2)] [(.int p1), (.ref o0)])) X1 (fun t k => XS.iloadN X1.here hx rfl (hb hby d2_5) rfl k) ?_
  obtain ⟨T2, h2, L2, X2, e2, N2, W2, F2, st2⟩ := own_putF X1 hx hZ hown (hw _ (List.mem_of_getElem? (i := 14) rfl)) e1 N0 F_total_o0 E_o0 g_o0 (Or.inr ⟨(hw _ (List.mem_of_getElem? (i := 15) rfl)), rfl, hnm⟩) (hw _ (List.mem_of_getElem? (i := 6) rfl)) (fty := .int) (by decide) rfl rfl (g := (mkF m 6 #[.val (.ref o0), .val (.int p1), .val (.int p2)] [(.int p1), (.ref o0)])) rfl rfl (hb hby d2_6)
  have K2 := Keep.of_wr W2
  have Z2 : n0 ≤ h2.size := Nat.le_trans Z0 K2.1
  have S2 : h0.size ≤ h2.size := Nat.le_trans (Nat.le_refl h0.size) K2.1
  have F3 := Fld.other W2 F_producers_o0 (Or.inr (slot_ne (Or.inr (hw _ (List.mem_of_getElem? (i := 17) rfl))) (Or.inr (hw _ (List.mem_of_getElem? (i := 15) rfl))) (by decide) (t := .int) (t' := .int) (by decide) (by decide)))
  have E4 := Exa.wr W2 E_o0
  refine OwnFin.step (g' := (mkF m 9 #[.val (.ref o0), .val (.int p1), .val (.int p2)] [])) X2 (fun t k => st2 _ k) ?_
  refine OwnFin.step (g' := (mkF m 10 #[.val (.ref o0), .val (.int p1), .val (.int p2)] [(.ref o0)])) X2 (fun t k => XS.aloadN X2.here hx rfl (hb hby d2_9) rfl rfl k) ?_
  refine OwnFin.step (g' := (mkF m 11 #[.val (.ref o0), .val (.int p1), .val (.int p2)] [(.int p2), (.ref o0)])) X2 (fun t k => XS.iloadN X2.here hx rfl (hb hby d2_10) rfl k) ?_
  obtain ⟨T5, h5, L5, X5, e5, N5, W5, F5, st5⟩ := own_putF X2 hx hZ hown (hw _ (List.mem_of_getElem? (i := 16) rfl)) e2 N2 F3 E4 g_o0 (Or.inr ⟨(hw _ (List.mem_of_getElem? (i := 17) rfl)), rfl, hnm⟩) (hw _ (List.mem_of_getElem? (i := 6) rfl)) (fty := .int) (by decide) rfl rfl (g := (mkF m 11 #[.val (.ref o0), .val (.int p1), .val (.int p2)] [(.int p2), (.ref o0)])) rfl rfl (hb hby d2_11)
  have K5 := Keep.of_wr W5
  have Z5 : n0 ≤ h5.size := Nat.le_trans Z2 K5.1
  have S5 : h0.size ≤ h5.size := Nat.le_trans S2 K5.1
  have F6 := Fld.other W5 F2 (Or.inr (slot_ne (Or.inr (hw _ (List.mem_of_getElem? (i := 15) rfl))) (Or.inr (hw _ (List.mem_of_getElem? (i := 17) rfl))) (by decide) (t := .int) (t' := .int) (by decide) (by decide)))
  have E7 := Exa.wr W5 E4
  refine OwnFin.step (g' := (mkF m 14 #[.val (.ref o0), .val (.int p1), .val (.int p2)] [])) X5 (fun t k => st5 _ k) ?_
  refine OwnFin.retVoid X5 (hb hby d2_14) (by decide) (by decide) ?_
  rw [e5]
  exact ⟨rfl, N5, (Keep.trans (Keep.trans (Keep.refl h0 [o0]) K2 (allS (Or.inl (List.mem_of_getElem? (i := 0) rfl)) all0)) K5 (allS (Or.inl (List.mem_of_getElem? (i := 0) rfl)) all0)), E7, F6, F5⟩
set_option maxRecDepth 65536 in
set_option maxHeartbeats 40000000 in
theorem rm2 (l : Launch) (Z : State) (a0 : Array Value) (hw : ∀ d ∈ tables_1, d.before a0 Z = true) (ws : List Jvm.Cond) (o0 : Addr) (p1 : Int32) (p2 : Int32) (h0 : Heap) (n0 : Nat) (Z0 : n0 ≤ h0.size) (E_o0 : Exa Z h0 o0 "latchwork/scenario/ValueRanges") (g_o0 : n0 ≤ o0) (F_total_o0 : Fld Z h0 o0 "latchwork/scenario/ValueRanges" "total" "I" (.int (0 : Int32))) (F_producers_o0 : Fld Z h0 o0 "latchwork/scenario/ValueRanges" "producers" "I" (.int (0 : Int32))) :
    MetFree l (⟨"latchwork/scenario/ValueRanges", "<init>", "(II)V"⟩ : MethodName) (head1 (Jvm.Cond.code (⟨"latchwork/scenario/ValueRanges", "<init>", "(II)V"⟩ : MethodName) prog_79_method_1_code 3 none :: ws) ({ frames := 1, cells := 0, slots := 0, locals := 12 } : Room)) (fun a U => a = #[(.ref o0), (.int p1), (.int p2)] ∧ Z.Warmed39 U.vm ∧ U.heap = h0) (fun _ _ _ _ _ => True) (fun _ U o U' => ∃ v L, o = .returned v ∧ (Q2 Z o0 p1 p2 h0 n0) v U'.heap L ∧ FrameEnd U o U' L ({ frames := 1, cells := 0, slots := 0, locals := 12 } : Room).cells ({ frames := 1, cells := 0, slots := 0, locals := 12 } : Room).slots) :=
  own_met (ret := none) (Q := (Q2 Z o0 p1 p2 h0 n0)) (plainFor_of_name pn_2) (fun m => ef_2 m o0 p1 p2) (fun p e s m below meth c s₁ X hx hby hml hown hnm hZ e0 => j2 X hx hZ hw hby hml hown hnm e0 (Fr.nil n0) Z0 o0 p1 p2 E_o0 g_o0 F_total_o0 F_producers_o0)
/-! body 4: latchwork/scenario/ValueRanges.owner:(I)I -/
theorem d4_0 : decode prog_79_method_4_code 0 = .ok (.iload_n 1, 1) := by decide +kernel
theorem d4_1 : decode prog_79_method_4_code 1 = .ok (.i2l, 1) := by decide +kernel
theorem d4_2 : decode prog_79_method_4_code 2 = .ok (.aload_n 0, 1) := by decide +kernel
theorem d4_3 : decode prog_79_method_4_code 3 = .ok (.getfield 13, 3) := by decide +kernel
theorem d4_6 : decode prog_79_method_4_code 6 = .ok (.i2l, 1) := by decide +kernel
theorem d4_7 : decode prog_79_method_4_code 7 = .ok (.lmul, 1) := by decide +kernel
theorem d4_8 : decode prog_79_method_4_code 8 = .ok (.lconst 1, 1) := by decide +kernel
theorem d4_9 : decode prog_79_method_4_code 9 = .ok (.lsub, 1) := by decide +kernel
theorem d4_10 : decode prog_79_method_4_code 10 = .ok (.aload_n 0, 1) := by decide +kernel
theorem d4_11 : decode prog_79_method_4_code 11 = .ok (.getfield 7, 3) := by decide +kernel
theorem d4_14 : decode prog_79_method_4_code 14 = .ok (.i2l, 1) := by decide +kernel
theorem d4_15 : decode prog_79_method_4_code 15 = .ok (.ldiv, 1) := by decide +kernel
theorem d4_16 : decode prog_79_method_4_code 16 = .ok (.l2i, 1) := by decide +kernel
theorem d4_17 : decode prog_79_method_4_code 17 = .ok (.ireturn, 1) := by decide +kernel
theorem pn_4 : plainName "latchwork/scenario/ValueRanges" = true := by first | (simp [plainName, overriddenIn]; done) | decide +kernel
theorem ef_4 (m : MethodId) (o0 : Addr) (p1 : Int32) : entryFrame m #[(.ref o0), (.int p1)] 2 = mkF m 0 #[.val (.ref o0), .val (.int p1)] [] := by first | (simp [entryFrame, mkF, argsToLocals, Value.category]; done) | rfl
def f4_0 (p1 : Int32) (w_producers : Int32) (w_total : Int32) : Int32 := (((((p1.toInt64) * (w_producers.toInt64)) - (1 : Int64)) / (w_total.toInt64)).toInt32)
set_option maxRecDepth 65536 in
set_option maxHeartbeats 40000000 in
theorem j4_0 {p : Program} {l : Launch} {e : Env} {s : State} {m : MethodId} {args : Array Value} {below : List Frame} {meth : Method} {c : Code} {T0 : State} {locs : List Loc} {Z : State} {a0 : Array Value} {h0 : Heap} {n0 : Nat}
    (X0 : Stand p l e ({ frames := 0, cells := 0, slots := 0, locals := 0 } : Room) s m args below meth c T0 locs 0 0) (hx : p.tables.exec = Jvm.exec) (hZ : Z.Warmed39 s.vm) (hw : ∀ d ∈ tables_1, d.before a0 Z = true) (hby : c.code = prog_79_method_4_code) (hml : c.maxLocals = 2) (hown : s.vm.findClass "latchwork/scenario/ValueRanges" = some m.cls) (e0 : T0.heap = h0) (N0 : Fr n0 locs) (Z0 : n0 ≤ h0.size) (o0 : Addr) (p1 : Int32) (w_producers : Int32) (w_total : Int32) (F_producers : Fld Z h0 o0 "latchwork/scenario/ValueRanges" "producers" "I" (.int w_producers)) (F_total : Fld Z h0 o0 "latchwork/scenario/ValueRanges" "total" "I" (.int w_total)) (hnz : w_total.toInt64 ≠ 0) :
    OwnFin X0 (some .int) (PQ (some (.int (f4_0 p1 w_producers w_total))) h0 n0) 0 0 (mkF m 0 #[.val (.ref o0), .val (.int p1)] []) := by
  show OwnFin X0 (some .int) (PQ (some (.int (((((p1.toInt64) * (w_producers.toInt64)) - (1 : Int64)) / (w_total.toInt64)).toInt32))) h0 n0) 0 0 _
  refine OwnFin.step (g' := (mkF m 1 #[.val (.ref o0), .val (.int p1)] [(.int p1)])) X0 (fun t k => XS.iloadN X0.here hx rfl (hb hby d4_0) rfl k) ?_
  refine OwnFin.step (g' := (mkF m 2 #[.val (.ref o0), .val (.int p1)] [(.long (p1.toInt64))])) X0 (fun t k => XT.i2l X0.here hx rfl (hb hby d4_1) rfl k) ?_
  refine OwnFin.step (g' := (mkF m 3 #[.val (.ref o0), .val (.int p1)] [(.ref o0), (.long (p1.toInt64))])) X0 (fun t k => XS.aloadN X0.here hx rfl (hb hby d4_2) rfl rfl k) ?_
  obtain ⟨T1, X1, e1, st1⟩ := getF X0 hx hZ hown (host := "") (Or.inl (hw _ (List.mem_of_getElem? (i := 16) rfl))) Via.refl e0 F_producers (g := (mkF m 3 #[.val (.ref o0), .val (.int p1)] [(.ref o0), (.long (p1.toInt64))])) rfl rfl (hb hby d4_3)
  refine OwnFin.step (g' := (mkF m 6 #[.val (.ref o0), .val (.int p1)] [(.int w_producers), (.long (p1.toInt64))])) X1 (fun t k => st1 _ k) ?_
  refine OwnFin.step (g' := (mkF m 7 #[.val (.ref o0), .val (.int p1)] [(.long (w_producers.toInt64)), (.long (p1.toInt64))])) X1 (fun t k => XT.i2l X1.here hx rfl (hb hby d4_6) rfl k) ?_
  refine OwnFin.step (g' := (mkF m 8 #[.val (.ref o0), .val (.int p1)] [(.long ((p1.toInt64) * (w_producers.toInt64)))])) X1 (fun t k => XT.lmul X1.here hx rfl (hb hby d4_7) rfl k) ?_
  refine OwnFin.step (g' := (mkF m 9 #[.val (.ref o0), .val (.int p1)] [(.long (1 : Int64)), (.long ((p1.toInt64) * (w_producers.toInt64)))])) X1 (fun t k => XT.lconst X1.here hx rfl (hb hby d4_8) k) ?_
  refine OwnFin.step (g' := (mkF m 10 #[.val (.ref o0), .val (.int p1)] [(.long (((p1.toInt64) * (w_producers.toInt64)) - (1 : Int64)))])) X1 (fun t k => XT.lsub X1.here hx rfl (hb hby d4_9) rfl k) ?_
  refine OwnFin.step (g' := (mkF m 11 #[.val (.ref o0), .val (.int p1)] [(.ref o0), (.long (((p1.toInt64) * (w_producers.toInt64)) - (1 : Int64)))])) X1 (fun t k => XS.aloadN X1.here hx rfl (hb hby d4_10) rfl rfl k) ?_
  obtain ⟨T2, X2, e2, st2⟩ := getF X1 hx hZ hown (host := "") (Or.inl (hw _ (List.mem_of_getElem? (i := 14) rfl))) Via.refl e1 F_total (g := (mkF m 11 #[.val (.ref o0), .val (.int p1)] [(.ref o0), (.long (((p1.toInt64) * (w_producers.toInt64)) - (1 : Int64)))])) rfl rfl (hb hby d4_11)
  refine OwnFin.step (g' := (mkF m 14 #[.val (.ref o0), .val (.int p1)] [(.int w_total), (.long (((p1.toInt64) * (w_producers.toInt64)) - (1 : Int64)))])) X2 (fun t k => st2 _ k) ?_
  refine OwnFin.step (g' := (mkF m 15 #[.val (.ref o0), .val (.int p1)] [(.long (w_total.toInt64)), (.long (((p1.toInt64) * (w_producers.toInt64)) - (1 : Int64)))])) X2 (fun t k => XT.i2l X2.here hx rfl (hb hby d4_14) rfl k) ?_
  refine OwnFin.step (g' := (mkF m 16 #[.val (.ref o0), .val (.int p1)] [(.long ((((p1.toInt64) * (w_producers.toInt64)) - (1 : Int64)) / (w_total.toInt64)))])) X2 (fun t k => XT.ldiv X2.here hx rfl (hb hby d4_15) rfl hnz k) ?_
  refine OwnFin.step (g' := (mkF m 17 #[.val (.ref o0), .val (.int p1)] [(.int (((((p1.toInt64) * (w_producers.toInt64)) - (1 : Int64)) / (w_total.toInt64)).toInt32))])) X2 (fun t k => XT.l2i X2.here hx rfl (hb hby d4_16) rfl k) ?_
  exact OwnFin.retInt X2 (hb hby d4_17) (Nat.le_refl _) (Nat.le_refl _) ⟨rfl, e2, N0⟩
def r4 (p1 : Int32) (w_producers : Int32) (w_total : Int32) : Int32 := f4_0 p1 w_producers w_total
set_option maxRecDepth 65536 in
set_option maxHeartbeats 40000000 in
theorem rm4 (l : Launch) (Z : State) (a0 : Array Value) (hw : ∀ d ∈ tables_1, d.before a0 Z = true) (ws : List Jvm.Cond) (o0 : Addr) (p1 : Int32) (w_producers : Int32) (w_total : Int32) (h0 : Heap) (n0 : Nat) (Z0 : n0 ≤ h0.size) (F_producers : Fld Z h0 o0 "latchwork/scenario/ValueRanges" "producers" "I" (.int w_producers)) (F_total : Fld Z h0 o0 "latchwork/scenario/ValueRanges" "total" "I" (.int w_total)) (hnz : w_total.toInt64 ≠ 0) :
    MetFree l (⟨"latchwork/scenario/ValueRanges", "owner", "(I)I"⟩ : MethodName) (head1 (Jvm.Cond.code (⟨"latchwork/scenario/ValueRanges", "owner", "(I)I"⟩ : MethodName) prog_79_method_4_code 2 (some .int) :: ws) ({ frames := 0, cells := 0, slots := 0, locals := 0 } : Room)) (fun a U => a = #[(.ref o0), (.int p1)] ∧ Z.Warmed39 U.vm ∧ U.heap = h0) (fun _ _ _ _ _ => True) (fun _ U o U' => ∃ v L, o = .returned v ∧ PQ (some (.int (r4 p1 w_producers w_total))) h0 n0 v U'.heap L ∧ FrameEnd U o U' L ({ frames := 0, cells := 0, slots := 0, locals := 0 } : Room).cells ({ frames := 0, cells := 0, slots := 0, locals := 0 } : Room).slots) :=
  own_met (ret := (some .int)) (plainFor_of_name pn_4) (fun m => ef_4 m o0 p1) (fun p e s m below meth c s₁ X hx hby hml hown hnm hZ e0 => OwnFin.wide (j4_0 X hx hZ hw hby hml hown e0 (Fr.nil n0) Z0 o0 p1 w_producers w_total F_producers F_total hnz) (Nat.zero_le _) (Nat.zero_le _))
theorem pn_0 : plainName "latchwork/scenario/ValueRangesOwnerPinLaw" = true := by first | (simp [plainName, overriddenIn]; done) | decide +kernel
theorem ef_0 (m : MethodId) (p0 : Int32) (p1 : Int32) (p2 : Int32) : entryFrame m #[(.int p0), (.int p1), (.int p2)] maxLocals = mkF m 0 #[.val (.int p0), .val (.int p1), .val (.int p2), .unset, .unset, .unset, .unset, .unset, .unset, .unset, .unset, .unset, .unset, .unset] [] := by first | (simp [entryFrame, mkF, argsToLocals, Value.category, maxLocals]; done) | rfl
theorem pd_0 : parseMethodDescriptor "(II)I" = some ⟨[.int, .int], some .int⟩ := by decide +kernel
theorem pd_1 : parseMethodDescriptor "(II)V" = some ⟨[.int, .int], none⟩ := by decide +kernel
theorem pd_2 : parseMethodDescriptor "(I)I" = some ⟨[.int], some .int⟩ := by decide +kernel
def v0_8 (p0 : Int32) : Int32 := (r1 (1 : Int32) (p0 &&& (2147483647 : Int32)))
def v0_17 (p1 : Int32) : Int32 := (r1 (1 : Int32) (p1 &&& (2147483647 : Int32)))
def v0_27 (p2 : Int32) (p0 : Int32) : Int32 := ((1 : Int32) + ((p2 &&& (2147483647 : Int32)) % (v0_8 p0)))
def v0_48 (p2 : Int32) (p0 : Int32) (p1 : Int32) : Int32 := (r4 (v0_27 p2 p0) (v0_17 p1) (v0_8 p0))
def v0_71 (p2 : Int32) (p0 : Int32) (p1 : Int32) : Int64 := (((v0_27 p2 p0).toInt64) * ((v0_17 p1).toInt64))
def v0_79 (p0 : Int32) (p2 : Int32) (p1 : Int32) : Int64 := (((v0_8 p0).toInt64) * ((v0_48 p2 p0 p1).toInt64))
def v0_89 (p0 : Int32) (p2 : Int32) (p1 : Int32) : Int64 := (((v0_8 p0).toInt64) * (((v0_48 p2 p0 p1).toInt64) + (1 : Int64)))
theorem own_t (p : Int32) : 1 ≤ (r1 1 (p &&& 2147483647)).toInt ∧ (r1 1 (p &&& 2147483647)).toInt ≤ 2147483647 := by
  have a1 : (1 : Int32).toInt = 1 := rfl
  have m := mask31 p
  unfold r1 f1_0
  split
  · rename_i q; rw [i32lt, a1] at q; omega
  · rw [a1]; omega
theorem own_v (p2 p0 : Int32) : 1 ≤ (v0_27 p2 p0).toInt ∧ (v0_27 p2 p0).toInt ≤ (v0_8 p0).toInt := by
  have h : 1 ≤ (v0_8 p0).toInt ∧ (v0_8 p0).toInt ≤ 2147483647 := own_t p0
  have m := mask31 p2
  have r := rem32 (x := p2 &&& 2147483647) (y := v0_8 p0) (by omega) (by omega)
  have a1 : (1 : Int32).toInt = 1 := rfl
  unfold v0_27
  rw [Jvm.Kit.i32_add (by rw [a1]; omega) (by rw [a1]; omega), a1]
  omega
theorem nz0_25 (p0 : Int32) : (v0_8 p0) ≠ (0 : Int32) := by
  have h : 1 ≤ (v0_8 p0).toInt ∧ _ := own_t p0
  intro e
  have : (v0_8 p0).toInt = 0 := by rw [e]; rfl
  omega
theorem ex0_45 (p0 : Int32) : (v0_8 p0).toInt64 ≠ 0 := by
  have h : 1 ≤ (v0_8 p0).toInt ∧ _ := own_t p0
  intro e
  have : (v0_8 p0).toInt64.toInt = 0 := by rw [e]; rfl
  rw [Jvm.Kit.i64_of_i32] at this
  omega
theorem own_all (p2 p0 p1 : Int32) : (0 ≤ (v0_48 p2 p0 p1).toInt ∧ (v0_48 p2 p0 p1).toInt < (v0_17 p1).toInt) ∧ (v0_79 p0 p2 p1) < (v0_71 p2 p0 p1) ∧ ¬ ((v0_89 p0 p2 p1) < (v0_71 p2 p0 p1)) := by
  have ht : 1 ≤ (v0_8 p0).toInt ∧ (v0_8 p0).toInt ≤ 2147483647 := own_t p0
  have hp : 1 ≤ (v0_17 p1).toInt ∧ (v0_17 p1).toInt ≤ 2147483647 := own_t p1
  have hv := own_v p2 p0
  unfold v0_79 v0_71 v0_89 v0_48 r4 f4_0
  generalize v0_27 p2 p0 = v at *
  generalize v0_8 p0 = t at *
  generalize v0_17 p1 = pr at *
  have a1 : (1 : Int64).toInt = 1 := rfl
  have m0 := mulbd (a := v.toInt) (b := pr.toInt) (by omega) (by omega) (by omega) (by omega)
  have m1 : (v.toInt64 * pr.toInt64).toInt = v.toInt * pr.toInt := mul64 (by omega) (by omega)
  have m2 : 1 ≤ v.toInt * pr.toInt := by
    have := Int.mul_le_mul (show (1 : Int) ≤ v.toInt by omega) (show (1 : Int) ≤ pr.toInt by omega) (by omega) (by omega)
    omega
  have m3 : (v.toInt64 * pr.toInt64 - 1).toInt = v.toInt * pr.toInt - 1 := by rw [Jvm.Kit.i64_sub (by rw [a1, m1]; omega) (by rw [a1, m1]; omega), a1, m1]
  have m4 : ((v.toInt64 * pr.toInt64 - 1) / t.toInt64).toInt = (v.toInt * pr.toInt - 1) / t.toInt := by
    rw [div64 (by omega) (by rw [Jvm.Kit.i64_of_i32]; omega), m3, Jvm.Kit.i64_of_i32]
  have q0 : 0 ≤ (v.toInt * pr.toInt - 1) / t.toInt := Int.ediv_nonneg (by omega) (by omega)
  have q2 : v.toInt * pr.toInt ≤ t.toInt * pr.toInt := Int.mul_le_mul_of_nonneg_right (by omega) (by omega)
  have q1 : (v.toInt * pr.toInt - 1) / t.toInt < pr.toInt := Int.ediv_lt_of_lt_mul (by omega) (by rw [Int.mul_comm pr.toInt]; omega)
  have m5 : (((v.toInt64 * pr.toInt64 - 1) / t.toInt64).toInt32).toInt = (v.toInt * pr.toInt - 1) / t.toInt := by rw [Jvm.Kit.i32_of_i64 (by omega) (by omega), m4]
  generalize ((v.toInt64 * pr.toInt64 - 1) / t.toInt64).toInt32 = f at *
  have e2 : (f.toInt64 + 1).toInt = f.toInt + 1 := by rw [Jvm.Kit.i64_add (by rw [a1, Jvm.Kit.i64_of_i32]; omega) (by rw [a1, Jvm.Kit.i64_of_i32]; omega), a1, Jvm.Kit.i64_of_i32]
  have n1 : (t.toInt64 * f.toInt64).toInt = t.toInt * ((v.toInt * pr.toInt - 1) / t.toInt) := by rw [mul64 (by omega) (by omega), m5]
  have n2 : (t.toInt64 * (f.toInt64 + 1)).toInt = t.toInt * ((v.toInt * pr.toInt - 1) / t.toInt) + t.toInt := by rw [mul64g (by rw [Jvm.Kit.i64_of_i32]; omega) (by rw [Jvm.Kit.i64_of_i32]; omega) (by omega) (by omega), e2, m5, Jvm.Kit.i64_of_i32, Int.mul_add, Int.mul_one]
  have q := quot (a := v.toInt * pr.toInt - 1) (b := t.toInt) (by omega)
  rw [i64lt, i64lt, m1, n1, n2, m5]
  omega
theorem br0_52 (p2 : Int32) (p0 : Int32) (p1 : Int32) : ¬ ((v0_48 p2 p0 p1) < (0 : Int32)) := by
  have h := (own_all p2 p0 p1).1
  have a0 : (0 : Int32).toInt = 0 := rfl
  rw [i32lt, a0]; omega
theorem br0_59 (p2 : Int32) (p0 : Int32) (p1 : Int32) : (v0_48 p2 p0 p1) < (v0_17 p1) := by
  have h := (own_all p2 p0 p1).1
  rw [i32lt]; omega
theorem br0_96 (p0 : Int32) (p2 : Int32) (p1 : Int32) : (v0_79 p0 p2 p1) < (v0_71 p2 p0 p1) := (own_all p2 p0 p1).2.1
theorem br0_104 (p2 : Int32) (p0 : Int32) (p1 : Int32) : ¬ ((v0_89 p0 p2 p1) < (v0_71 p2 p0 p1)) := (own_all p2 p0 p1).2.2
set_option maxRecDepth 65536 in
set_option maxHeartbeats 40000000 in
theorem j0 {p : Program} {l : Launch} {e : Env} {s : State} {m : MethodId} {args : Array Value} {below : List Frame} {meth : Method} {c : Code} {T0 : State} {locs : List Loc} {Z : State} {a0 : Array Value} {h0 : Heap} {n0 : Nat}
    (X0 : Stand p l e room_1 s m args below meth c T0 locs 0 0) (hx : p.tables.exec = Jvm.exec) (hZ : Z.Warmed39 s.vm) (hw : ∀ d ∈ tables_1, d.before a0 Z = true) (hby : c.code = code) (hml : c.maxLocals = 14) (hown : s.vm.findClass "latchwork/scenario/ValueRangesOwnerPinLaw" = some m.cls) (hnm : meth.name = "law") (e0 : T0.heap = h0) (N0 : Fr n0 locs) (Z0 : n0 ≤ h0.size) (p0 : Int32) (p1 : Int32) (p2 : Int32) :
    OwnFin X0 (some .boolean) (LQ n0) room_1.cells room_1.slots (mkF m 0 #[.val (.int p0), .val (.int p1), .val (.int p2), .unset, .unset, .unset, .unset, .unset, .unset, .unset, .unset, .unset, .unset, .unset] []) := by
  refine OwnFin.step (g' := (mkF m 1 #[.val (.int p0), .val (.int p1), .val (.int p2), .unset, .unset, .unset, .unset, .unset, .unset, .unset, .unset, .unset, .unset, .unset] [(.int (1 : Int32))])) X0 (fun t k => XS.iconst X0.here hx rfl (hb hby at_0) k) ?_
  refine OwnFin.step (g' := (mkF m 2 #[.val (.int p0), .val (.int p1), .val (.int p2), .unset, .unset, .unset, .unset, .unset, .unset, .unset, .unset, .unset, .unset, .unset] [(.int p0), (.int (1 : Int32))])) X0 (fun t k => XS.iloadN X0.here hx rfl (hb hby at_1) rfl k) ?_
  refine OwnFin.step (g' := (mkF m 4 #[.val (.int p0), .val (.int p1), .val (.int p2), .unset, .unset, .unset, .unset, .unset, .unset, .unset, .unset, .unset, .unset, .unset] [(.int (2147483647 : Int32)), (.int p0), (.int (1 : Int32))])) X0 (fun t k => X0.ldcInt hx hown (mvT hZ (hw _ (List.mem_of_getElem? (i := 0) rfl))) (g := (mkF m 2 #[.val (.int p0), .val (.int p1), .val (.int p2), .unset, .unset, .unset, .unset, .unset, .unset, .unset, .unset, .unset, .unset, .unset] [(.int p0), (.int (1 : Int32))])) rfl (hb hby at_2) _ k) ?_
  refine OwnFin.step (g' := (mkF m 5 #[.val (.int p0), .val (.int p1), .val (.int p2), .unset, .unset, .unset, .unset, .unset, .unset, .unset, .unset, .unset, .unset, .unset] [(.int (p0 &&& (2147483647 : Int32))), (.int (1 : Int32))])) X0 (fun t k => XS.iand X0.here hx rfl (hb hby at_4) rfl k) ?_
  obtain ⟨_, T1, L1, X1, ⟨rfl, f1, N1q⟩, st1⟩ := own_callS X0 hx hZ (y := (⟨"java/lang/Math", "max", "(II)I"⟩ : MethodName)) (W := 0) (argsL := [(.int (1 : Int32)), (.int (p0 &&& (2147483647 : Int32)))]) (rest := []) hown (hw _ (List.mem_of_getElem? (i := 1) rfl)) (hw _ (List.mem_of_getElem? (i := 2) rfl)) (hw _ (List.mem_of_getElem? (i := 3) rfl)) (hw _ (List.mem_of_getElem? (i := 4) rfl)) (by decide) (rm1 l Z a0 hw [] (1 : Int32) (p0 &&& (2147483647 : Int32)) h0 n0 Z0) (by decide) (by decide) (by decide) (by decide) e0 (g := (mkF m 5 #[.val (.int p0), .val (.int p1), .val (.int p2), .unset, .unset, .unset, .unset, .unset, .unset, .unset, .unset, .unset, .unset, .unset] [(.int (p0 &&& (2147483647 : Int32))), (.int (1 : Int32))])) rfl (by rw [hml]; rfl) pd_0 rfl rfl (by show 2 * 0 + _ ≤ _; exact Nat.le_of_eq rfl) (hb hby at_5)
  have N1 := Fr.app N0 N1q
  refine OwnFin.step (g' := (mkF m 8 #[.val (.int p0), .val (.int p1), .val (.int p2), .unset, .unset, .unset, .unset, .unset, .unset, .unset, .unset, .unset, .unset, .unset] [(.int (r1 (1 : Int32) (p0 &&& (2147483647 : Int32))))])) X1 (fun t k => st1 _ k) ?_
  refine OwnFin.step (g' := (mkF m 9 #[.val (.int p0), .val (.int p1), .val (.int p2), .val (.int (v0_8 p0)), .unset, .unset, .unset, .unset, .unset, .unset, .unset, .unset, .unset, .unset] [])) X1 (fun t k => XS.istoreN X1.here hx rfl (hb hby at_8) rfl (l' := #[.val (.int p0), .val (.int p1), .val (.int p2), .val (.int (v0_8 p0)), .unset, .unset, .unset, .unset, .unset, .unset, .unset, .unset, .unset, .unset]) rfl k) ?_
  refine OwnFin.step (g' := (mkF m 10 #[.val (.int p0), .val (.int p1), .val (.int p2), .val (.int (v0_8 p0)), .unset, .unset, .unset, .unset, .unset, .unset, .unset, .unset, .unset, .unset] [(.int (1 : Int32))])) X1 (fun t k => XS.iconst X1.here hx rfl (hb hby at_9) k) ?_
  refine OwnFin.step (g' := (mkF m 11 #[.val (.int p0), .val (.int p1), .val (.int p2), .val (.int (v0_8 p0)), .unset, .unset, .unset, .unset, .unset, .unset, .unset, .unset, .unset, .unset] [(.int p1), (.int (1 : Int32))])) X1 (fun t k => XS.iloadN X1.here hx rfl (hb hby at_10) rfl k) ?_
  refine OwnFin.step (g' := (mkF m 13 #[.val (.int p0), .val (.int p1), .val (.int p2), .val (.int (v0_8 p0)), .unset, .unset, .unset, .unset, .unset, .unset, .unset, .unset, .unset, .unset] [(.int (2147483647 : Int32)), (.int p1), (.int (1 : Int32))])) X1 (fun t k => X1.ldcInt hx hown (mvT hZ (hw _ (List.mem_of_getElem? (i := 0) rfl))) (g := (mkF m 11 #[.val (.int p0), .val (.int p1), .val (.int p2), .val (.int (v0_8 p0)), .unset, .unset, .unset, .unset, .unset, .unset, .unset, .unset, .unset, .unset] [(.int p1), (.int (1 : Int32))])) rfl (hb hby at_11) _ k) ?_
  refine OwnFin.step (g' := (mkF m 14 #[.val (.int p0), .val (.int p1), .val (.int p2), .val (.int (v0_8 p0)), .unset, .unset, .unset, .unset, .unset, .unset, .unset, .unset, .unset, .unset] [(.int (p1 &&& (2147483647 : Int32))), (.int (1 : Int32))])) X1 (fun t k => XS.iand X1.here hx rfl (hb hby at_13) rfl k) ?_
  obtain ⟨_, T2, L2, X2, ⟨rfl, f2, N2q⟩, st2⟩ := own_callS X1 hx hZ (y := (⟨"java/lang/Math", "max", "(II)I"⟩ : MethodName)) (W := 0) (argsL := [(.int (1 : Int32)), (.int (p1 &&& (2147483647 : Int32)))]) (rest := []) hown (hw _ (List.mem_of_getElem? (i := 1) rfl)) (hw _ (List.mem_of_getElem? (i := 2) rfl)) (hw _ (List.mem_of_getElem? (i := 3) rfl)) (hw _ (List.mem_of_getElem? (i := 4) rfl)) (by decide) (rm1 l Z a0 hw [] (1 : Int32) (p1 &&& (2147483647 : Int32)) h0 n0 Z0) (by decide) (by decide) (by decide) (by decide) f1 (g := (mkF m 14 #[.val (.int p0), .val (.int p1), .val (.int p2), .val (.int (v0_8 p0)), .unset, .unset, .unset, .unset, .unset, .unset, .unset, .unset, .unset, .unset] [(.int (p1 &&& (2147483647 : Int32))), (.int (1 : Int32))])) rfl (by rw [hml]; rfl) pd_0 rfl rfl (by show 2 * 0 + _ ≤ _; exact Nat.le_of_eq rfl) (hb hby at_14)
  have N2 := Fr.app N1 N2q
  refine OwnFin.step (g' := (mkF m 17 #[.val (.int p0), .val (.int p1), .val (.int p2), .val (.int (v0_8 p0)), .unset, .unset, .unset, .unset, .unset, .unset, .unset, .unset, .unset, .unset] [(.int (r1 (1 : Int32) (p1 &&& (2147483647 : Int32))))])) X2 (fun t k => st2 _ k) ?_
  refine OwnFin.step (g' := (mkF m 19 #[.val (.int p0), .val (.int p1), .val (.int p2), .val (.int (v0_8 p0)), .val (.int (v0_17 p1)), .unset, .unset, .unset, .unset, .unset, .unset, .unset, .unset, .unset] [])) X2 (fun t k => XS.istore X2.here hx rfl (hb hby at_17) rfl (l' := #[.val (.int p0), .val (.int p1), .val (.int p2), .val (.int (v0_8 p0)), .val (.int (v0_17 p1)), .unset, .unset, .unset, .unset, .unset, .unset, .unset, .unset, .unset]) rfl k) ?_
  refine OwnFin.step (g' := (mkF m 20 #[.val (.int p0), .val (.int p1), .val (.int p2), .val (.int (v0_8 p0)), .val (.int (v0_17 p1)), .unset, .unset, .unset, .unset, .unset, .unset, .unset, .unset, .unset] [(.int (1 : Int32))])) X2 (fun t k => XS.iconst X2.here hx rfl (hb hby at_19) k) ?_
  refine OwnFin.step (g' := (mkF m 21 #[.val (.int p0), .val (.int p1), .val (.int p2), .val (.int (v0_8 p0)), .val (.int (v0_17 p1)), .unset, .unset, .unset, .unset, .unset, .unset, .unset, .unset, .unset] [(.int p2), (.int (1 : Int32))])) X2 (fun t k => XS.iloadN X2.here hx rfl (hb hby at_20) rfl k) ?_
  refine OwnFin.step (g' := (mkF m 23 #[.val (.int p0), .val (.int p1), .val (.int p2), .val (.int (v0_8 p0)), .val (.int (v0_17 p1)), .unset, .unset, .unset, .unset, .unset, .unset, .unset, .unset, .unset] [(.int (2147483647 : Int32)), (.int p2), (.int (1 : Int32))])) X2 (fun t k => X2.ldcInt hx hown (mvT hZ (hw _ (List.mem_of_getElem? (i := 0) rfl))) (g := (mkF m 21 #[.val (.int p0), .val (.int p1), .val (.int p2), .val (.int (v0_8 p0)), .val (.int (v0_17 p1)), .unset, .unset, .unset, .unset, .unset, .unset, .unset, .unset, .unset] [(.int p2), (.int (1 : Int32))])) rfl (hb hby at_21) _ k) ?_
  refine OwnFin.step (g' := (mkF m 24 #[.val (.int p0), .val (.int p1), .val (.int p2), .val (.int (v0_8 p0)), .val (.int (v0_17 p1)), .unset, .unset, .unset, .unset, .unset, .unset, .unset, .unset, .unset] [(.int (p2 &&& (2147483647 : Int32))), (.int (1 : Int32))])) X2 (fun t k => XS.iand X2.here hx rfl (hb hby at_23) rfl k) ?_
  refine OwnFin.step (g' := (mkF m 25 #[.val (.int p0), .val (.int p1), .val (.int p2), .val (.int (v0_8 p0)), .val (.int (v0_17 p1)), .unset, .unset, .unset, .unset, .unset, .unset, .unset, .unset, .unset] [(.int (v0_8 p0)), (.int (p2 &&& (2147483647 : Int32))), (.int (1 : Int32))])) X2 (fun t k => XS.iloadN X2.here hx rfl (hb hby at_24) rfl k) ?_
  refine OwnFin.step (g' := (mkF m 26 #[.val (.int p0), .val (.int p1), .val (.int p2), .val (.int (v0_8 p0)), .val (.int (v0_17 p1)), .unset, .unset, .unset, .unset, .unset, .unset, .unset, .unset, .unset] [(.int ((p2 &&& (2147483647 : Int32)) % (v0_8 p0))), (.int (1 : Int32))])) X2 (fun t k => iremM X2 hx rfl (hb hby at_25) rfl (nz0_25 p0) k) ?_
  refine OwnFin.step (g' := (mkF m 27 #[.val (.int p0), .val (.int p1), .val (.int p2), .val (.int (v0_8 p0)), .val (.int (v0_17 p1)), .unset, .unset, .unset, .unset, .unset, .unset, .unset, .unset, .unset] [(.int ((1 : Int32) + ((p2 &&& (2147483647 : Int32)) % (v0_8 p0))))])) X2 (fun t k => XS.iadd X2.here hx rfl (hb hby at_26) rfl k) ?_
  refine OwnFin.step (g' := (mkF m 29 #[.val (.int p0), .val (.int p1), .val (.int p2), .val (.int (v0_8 p0)), .val (.int (v0_17 p1)), .val (.int (v0_27 p2 p0)), .unset, .unset, .unset, .unset, .unset, .unset, .unset, .unset] [])) X2 (fun t k => XS.istore X2.here hx rfl (hb hby at_27) rfl (l' := #[.val (.int p0), .val (.int p1), .val (.int p2), .val (.int (v0_8 p0)), .val (.int (v0_17 p1)), .val (.int (v0_27 p2 p0)), .unset, .unset, .unset, .unset, .unset, .unset, .unset, .unset]) rfl k) ?_
  obtain ⟨T3, h3, X3, e3, E3, A3, D3, -, st3⟩ := newO X2 hx hZ hown (hw _ (List.mem_of_getElem? (i := 5) rfl)) (hw _ (List.mem_of_getElem? (i := 6) rfl)) (hw _ (List.mem_of_getElem? (i := 7) rfl)) f2 (g := (mkF m 29 #[.val (.int p0), .val (.int p1), .val (.int p2), .val (.int (v0_8 p0)), .val (.int (v0_17 p1)), .val (.int (v0_27 p2 p0)), .unset, .unset, .unset, .unset, .unset, .unset, .unset, .unset] [])) rfl (hb hby at_29) (by decide) (by decide)
  obtain ⟨b3, y3⟩ : ∃ z, z = h0.size := ⟨_, rfl⟩
  rw [← y3] at A3 D3 st3
  have K3 := keep_ext E3
  have g_b3 : n0 ≤ b3 := by rw [y3]; exact Z0
  have Z3 : n0 ≤ h3.size := Nat.le_trans Z0 K3.1
  have F3_total : Fld Z h3 b3 "latchwork/scenario/ValueRanges" "total" "I" (.int (0 : Int32)) := D3 (Or.inr (hw _ (List.mem_of_getElem? (i := 15) rfl))) (ty := .int) (by decide)
  have F3_producers : Fld Z h3 b3 "latchwork/scenario/ValueRanges" "producers" "I" (.int (0 : Int32)) := D3 (Or.inr (hw _ (List.mem_of_getElem? (i := 17) rfl))) (ty := .int) (by decide)
  refine OwnFin.step (g' := (mkF m 32 #[.val (.int p0), .val (.int p1), .val (.int p2), .val (.int (v0_8 p0)), .val (.int (v0_17 p1)), .val (.int (v0_27 p2 p0)), .unset, .unset, .unset, .unset, .unset, .unset, .unset, .unset] [(.ref b3)])) X3 (fun t k => st3 _ k) ?_
  refine OwnFin.step (g' := (mkF m 33 #[.val (.int p0), .val (.int p1), .val (.int p2), .val (.int (v0_8 p0)), .val (.int (v0_17 p1)), .val (.int (v0_27 p2 p0)), .unset, .unset, .unset, .unset, .unset, .unset, .unset, .unset] [(.ref b3), (.ref b3)])) X3 (fun t k => XS.dup X3.here hx rfl (hb hby at_32) rfl rfl k) ?_
  refine OwnFin.step (g' := (mkF m 34 #[.val (.int p0), .val (.int p1), .val (.int p2), .val (.int (v0_8 p0)), .val (.int (v0_17 p1)), .val (.int (v0_27 p2 p0)), .unset, .unset, .unset, .unset, .unset, .unset, .unset, .unset] [(.int (v0_8 p0)), (.ref b3), (.ref b3)])) X3 (fun t k => XS.iloadN X3.here hx rfl (hb hby at_33) rfl k) ?_
  refine OwnFin.step (g' := (mkF m 36 #[.val (.int p0), .val (.int p1), .val (.int p2), .val (.int (v0_8 p0)), .val (.int (v0_17 p1)), .val (.int (v0_27 p2 p0)), .unset, .unset, .unset, .unset, .unset, .unset, .unset, .unset] [(.int (v0_17 p1)), (.int (v0_8 p0)), (.ref b3), (.ref b3)])) X3 (fun t k => XS.iload X3.here hx rfl (hb hby at_34) rfl k) ?_
  obtain ⟨_, T4, L4, X4, ⟨rfl, N4q, u5, u6, u7, u8⟩, st4⟩ := own_callI X3 hx hZ (y := (⟨"latchwork/scenario/ValueRanges", "<init>", "(II)V"⟩ : MethodName)) (W := 1) (a := b3) (argsL := [(.int (v0_8 p0)), (.int (v0_17 p1))]) (rest := [(.ref b3)]) rfl hown (hw _ (List.mem_of_getElem? (i := 8) rfl)) (hw _ (List.mem_of_getElem? (i := 9) rfl)) (hw _ (List.mem_of_getElem? (i := 7) rfl)) (hw _ (List.mem_of_getElem? (i := 10) rfl)) (by decide) (rm2 l Z a0 hw [] b3 (v0_8 p0) (v0_17 p1) h3 n0 Z3 A3 g_b3 F3_total F3_producers) (by decide) (by decide) (by decide) (by decide) e3 (g := (mkF m 36 #[.val (.int p0), .val (.int p1), .val (.int p2), .val (.int (v0_8 p0)), .val (.int (v0_17 p1)), .val (.int (v0_27 p2 p0)), .unset, .unset, .unset, .unset, .unset, .unset, .unset, .unset] [(.int (v0_17 p1)), (.int (v0_8 p0)), (.ref b3), (.ref b3)])) rfl (by rw [hml]; rfl) pd_1 rfl rfl (by show 2 * 0 + _ ≤ _; exact Nat.le_of_eq rfl) (hb hby at_36)
  have N4 := Fr.app N2 N4q
  obtain ⟨h4, e4⟩ : ∃ z, T4.heap = z := ⟨_, rfl⟩
  rw [e4] at u5 u6 u7 u8
  have K4 := u5
  have Z4 : n0 ≤ h4.size := Nat.le_trans Z3 K4.1
  refine OwnFin.step (g' := (mkF m 39 #[.val (.int p0), .val (.int p1), .val (.int p2), .val (.int (v0_8 p0)), .val (.int (v0_17 p1)), .val (.int (v0_27 p2 p0)), .unset, .unset, .unset, .unset, .unset, .unset, .unset, .unset] [(.ref b3)])) X4 (fun t k => st4 _ k) ?_
  refine OwnFin.step (g' := (mkF m 41 #[.val (.int p0), .val (.int p1), .val (.int p2), .val (.int (v0_8 p0)), .val (.int (v0_17 p1)), .val (.int (v0_27 p2 p0)), .val (.ref b3), .unset, .unset, .unset, .unset, .unset, .unset, .unset] [])) X4 (fun t k => XS.astore X4.here hx rfl (hb hby at_39) rfl rfl (l' := #[.val (.int p0), .val (.int p1), .val (.int p2), .val (.int (v0_8 p0)), .val (.int (v0_17 p1)), .val (.int (v0_27 p2 p0)), .val (.ref b3), .unset, .unset, .unset, .unset, .unset, .unset, .unset]) rfl k) ?_
  refine OwnFin.step (g' := (mkF m 43 #[.val (.int p0), .val (.int p1), .val (.int p2), .val (.int (v0_8 p0)), .val (.int (v0_17 p1)), .val (.int (v0_27 p2 p0)), .val (.ref b3), .unset, .unset, .unset, .unset, .unset, .unset, .unset] [(.ref b3)])) X4 (fun t k => XS.aload X4.here hx rfl (hb hby at_41) rfl rfl k) ?_
  refine OwnFin.step (g' := (mkF m 45 #[.val (.int p0), .val (.int p1), .val (.int p2), .val (.int (v0_8 p0)), .val (.int (v0_17 p1)), .val (.int (v0_27 p2 p0)), .val (.ref b3), .unset, .unset, .unset, .unset, .unset, .unset, .unset] [(.int (v0_27 p2 p0)), (.ref b3)])) X4 (fun t k => XS.iload X4.here hx rfl (hb hby at_43) rfl k) ?_
  obtain ⟨_, T9, L9, X9, ⟨rfl, f9, N9q⟩, st9⟩ := own_callV X4 hx hZ (y := (⟨"latchwork/scenario/ValueRanges", "owner", "(I)I"⟩ : MethodName)) (W := 0) (a := b3) (argsL := [(.int (v0_27 p2 p0))]) (rest := []) hown (hw _ (List.mem_of_getElem? (i := 18) rfl)) (hw _ (List.mem_of_getElem? (i := 19) rfl)) (hw _ (List.mem_of_getElem? (i := 21) rfl)) (hw _ (List.mem_of_getElem? (i := 20) rfl)) (hw _ (List.mem_of_getElem? (i := 7) rfl)) (hw _ (List.mem_of_getElem? (i := 22) rfl)) (by decide) u6 (rm4 l Z a0 hw [] b3 (v0_27 p2 p0) (v0_17 p1) (v0_8 p0) h4 n0 Z4 u8 u7 (ex0_45 p0)) (by decide) (by decide) (by decide) (by decide) e4 (g := (mkF m 45 #[.val (.int p0), .val (.int p1), .val (.int p2), .val (.int (v0_8 p0)), .val (.int (v0_17 p1)), .val (.int (v0_27 p2 p0)), .val (.ref b3), .unset, .unset, .unset, .unset, .unset, .unset, .unset] [(.int (v0_27 p2 p0)), (.ref b3)])) rfl (by rw [hml]; rfl) pd_2 rfl rfl (by show 2 * 0 + _ ≤ _; exact Nat.le_of_eq rfl) (hb hby at_45)
  have N9 := Fr.app N4 N9q
  refine OwnFin.step (g' := (mkF m 48 #[.val (.int p0), .val (.int p1), .val (.int p2), .val (.int (v0_8 p0)), .val (.int (v0_17 p1)), .val (.int (v0_27 p2 p0)), .val (.ref b3), .unset, .unset, .unset, .unset, .unset, .unset, .unset] [(.int (r4 (v0_27 p2 p0) (v0_17 p1) (v0_8 p0)))])) X9 (fun t k => st9 _ k) ?_
  refine OwnFin.step (g' := (mkF m 50 #[.val (.int p0), .val (.int p1), .val (.int p2), .val (.int (v0_8 p0)), .val (.int (v0_17 p1)), .val (.int (v0_27 p2 p0)), .val (.ref b3), .val (.int (v0_48 p2 p0 p1)), .unset, .unset, .unset, .unset, .unset, .unset] [])) X9 (fun t k => XS.istore X9.here hx rfl (hb hby at_48) rfl (l' := #[.val (.int p0), .val (.int p1), .val (.int p2), .val (.int (v0_8 p0)), .val (.int (v0_17 p1)), .val (.int (v0_27 p2 p0)), .val (.ref b3), .val (.int (v0_48 p2 p0 p1)), .unset, .unset, .unset, .unset, .unset, .unset]) rfl k) ?_
  refine OwnFin.step (g' := (mkF m 52 #[.val (.int p0), .val (.int p1), .val (.int p2), .val (.int (v0_8 p0)), .val (.int (v0_17 p1)), .val (.int (v0_27 p2 p0)), .val (.ref b3), .val (.int (v0_48 p2 p0 p1)), .unset, .unset, .unset, .unset, .unset, .unset] [(.int (v0_48 p2 p0 p1))])) X9 (fun t k => XS.iload X9.here hx rfl (hb hby at_50) rfl k) ?_
  refine OwnFin.step (g' := (mkF m 55 #[.val (.int p0), .val (.int p1), .val (.int p2), .val (.int (v0_8 p0)), .val (.int (v0_17 p1)), .val (.int (v0_27 p2 p0)), .val (.ref b3), .val (.int (v0_48 p2 p0 p1)), .unset, .unset, .unset, .unset, .unset, .unset] [])) X9 (fun t k => XS.ifNo X9.here hx rfl (hb hby at_52) rfl ((if0 _ _).trans (flt (br0_52 p2 p0 p1)).1) k) ?_
  refine OwnFin.step (g' := (mkF m 57 #[.val (.int p0), .val (.int p1), .val (.int p2), .val (.int (v0_8 p0)), .val (.int (v0_17 p1)), .val (.int (v0_27 p2 p0)), .val (.ref b3), .val (.int (v0_48 p2 p0 p1)), .unset, .unset, .unset, .unset, .unset, .unset] [(.int (v0_48 p2 p0 p1))])) X9 (fun t k => XS.iload X9.here hx rfl (hb hby at_55) rfl k) ?_
  refine OwnFin.step (g' := (mkF m 59 #[.val (.int p0), .val (.int p1), .val (.int p2), .val (.int (v0_8 p0)), .val (.int (v0_17 p1)), .val (.int (v0_27 p2 p0)), .val (.ref b3), .val (.int (v0_48 p2 p0 p1)), .unset, .unset, .unset, .unset, .unset, .unset] [(.int (v0_17 p1)), (.int (v0_48 p2 p0 p1))])) X9 (fun t k => XS.iload X9.here hx rfl (hb hby at_57) rfl k) ?_
  refine OwnFin.step (g' := (mkF m 64 #[.val (.int p0), .val (.int p1), .val (.int p2), .val (.int (v0_8 p0)), .val (.int (v0_17 p1)), .val (.int (v0_27 p2 p0)), .val (.ref b3), .val (.int (v0_48 p2 p0 p1)), .unset, .unset, .unset, .unset, .unset, .unset] [])) X9 (fun t k => XS.icmpYes X9.here hx rfl (pc0 := 59) (pc' := 64) rfl (hb hby at_59) rfl (tlt (br0_59 p2 p0 p1)).1 (by decide) (by decide) k) ?_
  refine OwnFin.step (g' := (mkF m 66 #[.val (.int p0), .val (.int p1), .val (.int p2), .val (.int (v0_8 p0)), .val (.int (v0_17 p1)), .val (.int (v0_27 p2 p0)), .val (.ref b3), .val (.int (v0_48 p2 p0 p1)), .unset, .unset, .unset, .unset, .unset, .unset] [(.int (v0_27 p2 p0))])) X9 (fun t k => XS.iload X9.here hx rfl (hb hby at_64) rfl k) ?_
  refine OwnFin.step (g' := (mkF m 67 #[.val (.int p0), .val (.int p1), .val (.int p2), .val (.int (v0_8 p0)), .val (.int (v0_17 p1)), .val (.int (v0_27 p2 p0)), .val (.ref b3), .val (.int (v0_48 p2 p0 p1)), .unset, .unset, .unset, .unset, .unset, .unset] [(.long ((v0_27 p2 p0).toInt64))])) X9 (fun t k => XT.i2l X9.here hx rfl (hb hby at_66) rfl k) ?_
  refine OwnFin.step (g' := (mkF m 69 #[.val (.int p0), .val (.int p1), .val (.int p2), .val (.int (v0_8 p0)), .val (.int (v0_17 p1)), .val (.int (v0_27 p2 p0)), .val (.ref b3), .val (.int (v0_48 p2 p0 p1)), .unset, .unset, .unset, .unset, .unset, .unset] [(.int (v0_17 p1)), (.long ((v0_27 p2 p0).toInt64))])) X9 (fun t k => XS.iload X9.here hx rfl (hb hby at_67) rfl k) ?_
  refine OwnFin.step (g' := (mkF m 70 #[.val (.int p0), .val (.int p1), .val (.int p2), .val (.int (v0_8 p0)), .val (.int (v0_17 p1)), .val (.int (v0_27 p2 p0)), .val (.ref b3), .val (.int (v0_48 p2 p0 p1)), .unset, .unset, .unset, .unset, .unset, .unset] [(.long ((v0_17 p1).toInt64)), (.long ((v0_27 p2 p0).toInt64))])) X9 (fun t k => XT.i2l X9.here hx rfl (hb hby at_69) rfl k) ?_
  refine OwnFin.step (g' := (mkF m 71 #[.val (.int p0), .val (.int p1), .val (.int p2), .val (.int (v0_8 p0)), .val (.int (v0_17 p1)), .val (.int (v0_27 p2 p0)), .val (.ref b3), .val (.int (v0_48 p2 p0 p1)), .unset, .unset, .unset, .unset, .unset, .unset] [(.long (((v0_27 p2 p0).toInt64) * ((v0_17 p1).toInt64)))])) X9 (fun t k => XT.lmul X9.here hx rfl (hb hby at_70) rfl k) ?_
  refine OwnFin.step (g' := (mkF m 73 #[.val (.int p0), .val (.int p1), .val (.int p2), .val (.int (v0_8 p0)), .val (.int (v0_17 p1)), .val (.int (v0_27 p2 p0)), .val (.ref b3), .val (.int (v0_48 p2 p0 p1)), .val (.long (v0_71 p2 p0 p1)), .second, .unset, .unset, .unset, .unset] [])) X9 (fun t k => XT.lstore X9.here hx rfl (hb hby at_71) rfl (l' := #[.val (.int p0), .val (.int p1), .val (.int p2), .val (.int (v0_8 p0)), .val (.int (v0_17 p1)), .val (.int (v0_27 p2 p0)), .val (.ref b3), .val (.int (v0_48 p2 p0 p1)), .val (.long (v0_71 p2 p0 p1)), .second, .unset, .unset, .unset, .unset]) rfl k) ?_
  refine OwnFin.step (g' := (mkF m 74 #[.val (.int p0), .val (.int p1), .val (.int p2), .val (.int (v0_8 p0)), .val (.int (v0_17 p1)), .val (.int (v0_27 p2 p0)), .val (.ref b3), .val (.int (v0_48 p2 p0 p1)), .val (.long (v0_71 p2 p0 p1)), .second, .unset, .unset, .unset, .unset] [(.int (v0_8 p0))])) X9 (fun t k => XS.iloadN X9.here hx rfl (hb hby at_73) rfl k) ?_
  refine OwnFin.step (g' := (mkF m 75 #[.val (.int p0), .val (.int p1), .val (.int p2), .val (.int (v0_8 p0)), .val (.int (v0_17 p1)), .val (.int (v0_27 p2 p0)), .val (.ref b3), .val (.int (v0_48 p2 p0 p1)), .val (.long (v0_71 p2 p0 p1)), .second, .unset, .unset, .unset, .unset] [(.long ((v0_8 p0).toInt64))])) X9 (fun t k => XT.i2l X9.here hx rfl (hb hby at_74) rfl k) ?_
  refine OwnFin.step (g' := (mkF m 77 #[.val (.int p0), .val (.int p1), .val (.int p2), .val (.int (v0_8 p0)), .val (.int (v0_17 p1)), .val (.int (v0_27 p2 p0)), .val (.ref b3), .val (.int (v0_48 p2 p0 p1)), .val (.long (v0_71 p2 p0 p1)), .second, .unset, .unset, .unset, .unset] [(.int (v0_48 p2 p0 p1)), (.long ((v0_8 p0).toInt64))])) X9 (fun t k => XS.iload X9.here hx rfl (hb hby at_75) rfl k) ?_
  refine OwnFin.step (g' := (mkF m 78 #[.val (.int p0), .val (.int p1), .val (.int p2), .val (.int (v0_8 p0)), .val (.int (v0_17 p1)), .val (.int (v0_27 p2 p0)), .val (.ref b3), .val (.int (v0_48 p2 p0 p1)), .val (.long (v0_71 p2 p0 p1)), .second, .unset, .unset, .unset, .unset] [(.long ((v0_48 p2 p0 p1).toInt64)), (.long ((v0_8 p0).toInt64))])) X9 (fun t k => XT.i2l X9.here hx rfl (hb hby at_77) rfl k) ?_
  refine OwnFin.step (g' := (mkF m 79 #[.val (.int p0), .val (.int p1), .val (.int p2), .val (.int (v0_8 p0)), .val (.int (v0_17 p1)), .val (.int (v0_27 p2 p0)), .val (.ref b3), .val (.int (v0_48 p2 p0 p1)), .val (.long (v0_71 p2 p0 p1)), .second, .unset, .unset, .unset, .unset] [(.long (((v0_8 p0).toInt64) * ((v0_48 p2 p0 p1).toInt64)))])) X9 (fun t k => XT.lmul X9.here hx rfl (hb hby at_78) rfl k) ?_
  refine OwnFin.step (g' := (mkF m 81 #[.val (.int p0), .val (.int p1), .val (.int p2), .val (.int (v0_8 p0)), .val (.int (v0_17 p1)), .val (.int (v0_27 p2 p0)), .val (.ref b3), .val (.int (v0_48 p2 p0 p1)), .val (.long (v0_71 p2 p0 p1)), .second, .val (.long (v0_79 p0 p2 p1)), .second, .unset, .unset] [])) X9 (fun t k => XT.lstore X9.here hx rfl (hb hby at_79) rfl (l' := #[.val (.int p0), .val (.int p1), .val (.int p2), .val (.int (v0_8 p0)), .val (.int (v0_17 p1)), .val (.int (v0_27 p2 p0)), .val (.ref b3), .val (.int (v0_48 p2 p0 p1)), .val (.long (v0_71 p2 p0 p1)), .second, .val (.long (v0_79 p0 p2 p1)), .second, .unset, .unset]) rfl k) ?_
  refine OwnFin.step (g' := (mkF m 82 #[.val (.int p0), .val (.int p1), .val (.int p2), .val (.int (v0_8 p0)), .val (.int (v0_17 p1)), .val (.int (v0_27 p2 p0)), .val (.ref b3), .val (.int (v0_48 p2 p0 p1)), .val (.long (v0_71 p2 p0 p1)), .second, .val (.long (v0_79 p0 p2 p1)), .second, .unset, .unset] [(.int (v0_8 p0))])) X9 (fun t k => XS.iloadN X9.here hx rfl (hb hby at_81) rfl k) ?_
  refine OwnFin.step (g' := (mkF m 83 #[.val (.int p0), .val (.int p1), .val (.int p2), .val (.int (v0_8 p0)), .val (.int (v0_17 p1)), .val (.int (v0_27 p2 p0)), .val (.ref b3), .val (.int (v0_48 p2 p0 p1)), .val (.long (v0_71 p2 p0 p1)), .second, .val (.long (v0_79 p0 p2 p1)), .second, .unset, .unset] [(.long ((v0_8 p0).toInt64))])) X9 (fun t k => XT.i2l X9.here hx rfl (hb hby at_82) rfl k) ?_
  refine OwnFin.step (g' := (mkF m 85 #[.val (.int p0), .val (.int p1), .val (.int p2), .val (.int (v0_8 p0)), .val (.int (v0_17 p1)), .val (.int (v0_27 p2 p0)), .val (.ref b3), .val (.int (v0_48 p2 p0 p1)), .val (.long (v0_71 p2 p0 p1)), .second, .val (.long (v0_79 p0 p2 p1)), .second, .unset, .unset] [(.int (v0_48 p2 p0 p1)), (.long ((v0_8 p0).toInt64))])) X9 (fun t k => XS.iload X9.here hx rfl (hb hby at_83) rfl k) ?_
  refine OwnFin.step (g' := (mkF m 86 #[.val (.int p0), .val (.int p1), .val (.int p2), .val (.int (v0_8 p0)), .val (.int (v0_17 p1)), .val (.int (v0_27 p2 p0)), .val (.ref b3), .val (.int (v0_48 p2 p0 p1)), .val (.long (v0_71 p2 p0 p1)), .second, .val (.long (v0_79 p0 p2 p1)), .second, .unset, .unset] [(.long ((v0_48 p2 p0 p1).toInt64)), (.long ((v0_8 p0).toInt64))])) X9 (fun t k => XT.i2l X9.here hx rfl (hb hby at_85) rfl k) ?_
  refine OwnFin.step (g' := (mkF m 87 #[.val (.int p0), .val (.int p1), .val (.int p2), .val (.int (v0_8 p0)), .val (.int (v0_17 p1)), .val (.int (v0_27 p2 p0)), .val (.ref b3), .val (.int (v0_48 p2 p0 p1)), .val (.long (v0_71 p2 p0 p1)), .second, .val (.long (v0_79 p0 p2 p1)), .second, .unset, .unset] [(.long (1 : Int64)), (.long ((v0_48 p2 p0 p1).toInt64)), (.long ((v0_8 p0).toInt64))])) X9 (fun t k => XT.lconst X9.here hx rfl (hb hby at_86) k) ?_
  refine OwnFin.step (g' := (mkF m 88 #[.val (.int p0), .val (.int p1), .val (.int p2), .val (.int (v0_8 p0)), .val (.int (v0_17 p1)), .val (.int (v0_27 p2 p0)), .val (.ref b3), .val (.int (v0_48 p2 p0 p1)), .val (.long (v0_71 p2 p0 p1)), .second, .val (.long (v0_79 p0 p2 p1)), .second, .unset, .unset] [(.long (((v0_48 p2 p0 p1).toInt64) + (1 : Int64))), (.long ((v0_8 p0).toInt64))])) X9 (fun t k => XT.ladd X9.here hx rfl (hb hby at_87) rfl k) ?_
  refine OwnFin.step (g' := (mkF m 89 #[.val (.int p0), .val (.int p1), .val (.int p2), .val (.int (v0_8 p0)), .val (.int (v0_17 p1)), .val (.int (v0_27 p2 p0)), .val (.ref b3), .val (.int (v0_48 p2 p0 p1)), .val (.long (v0_71 p2 p0 p1)), .second, .val (.long (v0_79 p0 p2 p1)), .second, .unset, .unset] [(.long (((v0_8 p0).toInt64) * (((v0_48 p2 p0 p1).toInt64) + (1 : Int64))))])) X9 (fun t k => XT.lmul X9.here hx rfl (hb hby at_88) rfl k) ?_
  refine OwnFin.step (g' := (mkF m 91 #[.val (.int p0), .val (.int p1), .val (.int p2), .val (.int (v0_8 p0)), .val (.int (v0_17 p1)), .val (.int (v0_27 p2 p0)), .val (.ref b3), .val (.int (v0_48 p2 p0 p1)), .val (.long (v0_71 p2 p0 p1)), .second, .val (.long (v0_79 p0 p2 p1)), .second, .val (.long (v0_89 p0 p2 p1)), .second] [])) X9 (fun t k => XT.lstore X9.here hx rfl (hb hby at_89) rfl (l' := #[.val (.int p0), .val (.int p1), .val (.int p2), .val (.int (v0_8 p0)), .val (.int (v0_17 p1)), .val (.int (v0_27 p2 p0)), .val (.ref b3), .val (.int (v0_48 p2 p0 p1)), .val (.long (v0_71 p2 p0 p1)), .second, .val (.long (v0_79 p0 p2 p1)), .second, .val (.long (v0_89 p0 p2 p1)), .second]) rfl k) ?_
  refine OwnFin.step (g' := (mkF m 93 #[.val (.int p0), .val (.int p1), .val (.int p2), .val (.int (v0_8 p0)), .val (.int (v0_17 p1)), .val (.int (v0_27 p2 p0)), .val (.ref b3), .val (.int (v0_48 p2 p0 p1)), .val (.long (v0_71 p2 p0 p1)), .second, .val (.long (v0_79 p0 p2 p1)), .second, .val (.long (v0_89 p0 p2 p1)), .second] [(.long (v0_79 p0 p2 p1))])) X9 (fun t k => XT.lload X9.here hx rfl (hb hby at_91) rfl k) ?_
  refine OwnFin.step (g' := (mkF m 95 #[.val (.int p0), .val (.int p1), .val (.int p2), .val (.int (v0_8 p0)), .val (.int (v0_17 p1)), .val (.int (v0_27 p2 p0)), .val (.ref b3), .val (.int (v0_48 p2 p0 p1)), .val (.long (v0_71 p2 p0 p1)), .second, .val (.long (v0_79 p0 p2 p1)), .second, .val (.long (v0_89 p0 p2 p1)), .second] [(.long (v0_71 p2 p0 p1)), (.long (v0_79 p0 p2 p1))])) X9 (fun t k => XT.lload X9.here hx rfl (hb hby at_93) rfl k) ?_
  refine OwnFin.step (g' := (mkF m 96 #[.val (.int p0), .val (.int p1), .val (.int p2), .val (.int (v0_8 p0)), .val (.int (v0_17 p1)), .val (.int (v0_27 p2 p0)), .val (.ref b3), .val (.int (v0_48 p2 p0 p1)), .val (.long (v0_71 p2 p0 p1)), .second, .val (.long (v0_79 p0 p2 p1)), .second, .val (.long (v0_89 p0 p2 p1)), .second] [(.int (XT.cmpL (v0_79 p0 p2 p1) (v0_71 p2 p0 p1)))])) X9 (fun t k => XT.lcmp X9.here hx rfl (hb hby at_95) rfl k) ?_
  refine OwnFin.step (g' := (mkF m 99 #[.val (.int p0), .val (.int p1), .val (.int p2), .val (.int (v0_8 p0)), .val (.int (v0_17 p1)), .val (.int (v0_27 p2 p0)), .val (.ref b3), .val (.int (v0_48 p2 p0 p1)), .val (.long (v0_71 p2 p0 p1)), .second, .val (.long (v0_79 p0 p2 p1)), .second, .val (.long (v0_89 p0 p2 p1)), .second] [])) X9 (fun t k => XS.ifNo X9.here hx rfl (hb hby at_96) rfl ((if0 _ _).trans (tlt ((cl_lt _ _).mpr (br0_96 p0 p2 p1))).2.1) k) ?_
  refine OwnFin.step (g' := (mkF m 101 #[.val (.int p0), .val (.int p1), .val (.int p2), .val (.int (v0_8 p0)), .val (.int (v0_17 p1)), .val (.int (v0_27 p2 p0)), .val (.ref b3), .val (.int (v0_48 p2 p0 p1)), .val (.long (v0_71 p2 p0 p1)), .second, .val (.long (v0_79 p0 p2 p1)), .second, .val (.long (v0_89 p0 p2 p1)), .second] [(.long (v0_71 p2 p0 p1))])) X9 (fun t k => XT.lload X9.here hx rfl (hb hby at_99) rfl k) ?_
  refine OwnFin.step (g' := (mkF m 103 #[.val (.int p0), .val (.int p1), .val (.int p2), .val (.int (v0_8 p0)), .val (.int (v0_17 p1)), .val (.int (v0_27 p2 p0)), .val (.ref b3), .val (.int (v0_48 p2 p0 p1)), .val (.long (v0_71 p2 p0 p1)), .second, .val (.long (v0_79 p0 p2 p1)), .second, .val (.long (v0_89 p0 p2 p1)), .second] [(.long (v0_89 p0 p2 p1)), (.long (v0_71 p2 p0 p1))])) X9 (fun t k => XT.lload X9.here hx rfl (hb hby at_101) rfl k) ?_
  refine OwnFin.step (g' := (mkF m 104 #[.val (.int p0), .val (.int p1), .val (.int p2), .val (.int (v0_8 p0)), .val (.int (v0_17 p1)), .val (.int (v0_27 p2 p0)), .val (.ref b3), .val (.int (v0_48 p2 p0 p1)), .val (.long (v0_71 p2 p0 p1)), .second, .val (.long (v0_79 p0 p2 p1)), .second, .val (.long (v0_89 p0 p2 p1)), .second] [(.int (XT.cmpL (v0_71 p2 p0 p1) (v0_89 p0 p2 p1)))])) X9 (fun t k => XT.lcmp X9.here hx rfl (hb hby at_103) rfl k) ?_
  refine OwnFin.step (g' := (mkF m 107 #[.val (.int p0), .val (.int p1), .val (.int p2), .val (.int (v0_8 p0)), .val (.int (v0_17 p1)), .val (.int (v0_27 p2 p0)), .val (.ref b3), .val (.int (v0_48 p2 p0 p1)), .val (.long (v0_71 p2 p0 p1)), .second, .val (.long (v0_79 p0 p2 p1)), .second, .val (.long (v0_89 p0 p2 p1)), .second] [])) X9 (fun t k => XS.ifNo X9.here hx rfl (hb hby at_104) rfl ((if0 _ _).trans (flt (fun q => (br0_104 p2 p0 p1) ((cl_gt _ _).mp q))).2.2.1) k) ?_
  refine OwnFin.step (g' := (mkF m 108 #[.val (.int p0), .val (.int p1), .val (.int p2), .val (.int (v0_8 p0)), .val (.int (v0_17 p1)), .val (.int (v0_27 p2 p0)), .val (.ref b3), .val (.int (v0_48 p2 p0 p1)), .val (.long (v0_71 p2 p0 p1)), .second, .val (.long (v0_79 p0 p2 p1)), .second, .val (.long (v0_89 p0 p2 p1)), .second] [(.int (1 : Int32))])) X9 (fun t k => XS.iconst X9.here hx rfl (hb hby at_107) k) ?_
  refine OwnFin.step (g' := (mkF m 112 #[.val (.int p0), .val (.int p1), .val (.int p2), .val (.int (v0_8 p0)), .val (.int (v0_17 p1)), .val (.int (v0_27 p2 p0)), .val (.ref b3), .val (.int (v0_48 p2 p0 p1)), .val (.long (v0_71 p2 p0 p1)), .second, .val (.long (v0_79 p0 p2 p1)), .second, .val (.long (v0_89 p0 p2 p1)), .second] [(.int (1 : Int32))])) X9 (fun t k => XS.goto X9.here hx rfl (pc0 := 108) (pc' := 112) rfl (hb hby at_108) (by decide) (by decide) k) ?_
  refine OwnFin.retNar X9 (by simp) (hb hby at_112) (by decide) (by decide) ?_
  exact ⟨rfl, N9⟩
set_option maxRecDepth 65536 in
set_option maxHeartbeats 40000000 in
theorem rm0 (l : Launch) (Z : State) (a0 : Array Value) (hw : ∀ d ∈ tables_1, d.before a0 Z = true) (ws : List Jvm.Cond) (p0 : Int32) (p1 : Int32) (p2 : Int32) (h0 : Heap) (n0 : Nat) (Z0 : n0 ≤ h0.size) :
    MetFree l x (head1 (Jvm.Cond.code x code maxLocals ret :: ws) room_1) (fun a U => a = #[(.int p0), (.int p1), (.int p2)] ∧ Z.Warmed39 U.vm ∧ U.heap = h0) (fun _ _ _ _ _ => True) (fun _ U o U' => ∃ v L, o = .returned v ∧ (LQ n0) v U'.heap L ∧ FrameEnd U o U' L room_1.cells room_1.slots) :=
  own_met (ret := ret) (Q := (LQ n0)) (plainFor_of_name pn_0) (fun m => ef_0 m p0 p1 p2) (fun p e s m below meth c s₁ X hx hby hml hown hnm hZ e0 => j0 X hx hZ hw hby hml hown hnm e0 (Fr.nil n0) Z0 p0 p1 p2)
set_option maxRecDepth 65536 in
set_option maxHeartbeats 40000000 in
theorem comes_1 {Post : Tables → Env → Array Value → State → Outcome → State → Prop} (hpost : ∀ tb e args s v u, (limb_1_1.after args s (.returned v) u = true ∧ limb_1_2.after args s (.returned v) u = true ∧ True) → FrameEnd s (.returned v) u (Jvm.fieldLocs frame_1_writes args s ++ Jvm.arrayLocs frame_1_arrays args s ++ Jvm.staticLocs frame_1_statics s) 16 128 → Post tb e args s (.returned v) u) :
    ArmFor flags0 classFile x code maxLocals ret World_1 tables_1 room_1 Calls_1 rest_1 Pre_1 Post := by
  intro l hfl _ _ p e ha hc hk s m args below hf hA hF happ hP
  obtain ⟨hcalls, hrest, hpre⟩ := hP
  obtain ⟨-, -, -, hnamed, -, -, -, hat⟩ := (Spec.applies_iff hf).mp happ
  obtain ⟨hg, hn⟩ := and_e (Cond.before_iff.mp (show (Jvm.Cond.and given_1 narrow_1).before args s = true from hpre))
  obtain ⟨g1, g2⟩ := and_e hg
  obtain ⟨g3, g4⟩ := and_e g2
  obtain ⟨g5, g6⟩ := and_e g4
  obtain ⟨w0, w1, w2, rfl⟩ : ∃ w0 w1 w2 : Value, args = #[w0, w1, w2] := by
    have hs : args.size = 3 := by simpa [Cond.value, given_1] using g1
    obtain ⟨L⟩ := args
    match L, hs with
    | [w0, w1, w2], _ => exact ⟨w0, w1, w2, rfl⟩
  have hw := fun d (hd : d ∈ tables_1) => atoms_spec (ws := Jvm.Cond.code x code maxLocals ret :: tables_1) hat d (List.mem_cons_of_mem _ hd)
  obtain ⟨i0, ei0⟩ := is_v g3
  obtain rfl : w0 = (.int i0) := Option.some.inj ei0
  obtain ⟨i1, ei1⟩ := is_v g5
  obtain rfl : w1 = (.int i1) := Option.some.inj ei1
  obtain ⟨i2, ei2⟩ := is_v g6
  obtain rfl : w2 = (.int i2) := Option.some.inj ei2
  obtain ⟨n, o, h1, h2, h3, _, L, rfl, ⟨rfl, N⟩, hq⟩ := rm0 l s _ hw tables_1 i0 i1 i2 s.heap s.heap.size (Nat.le_refl _) p e ha hc hk s m _ below hf ((Spec.applies_iff_loose hf).mp happ).1 ⟨rfl, State.Warmed39.refl s, rfl⟩ trivial
  refine ⟨n, _, h1, h2, h3, hpost _ _ _ _ _ _ ⟨Cond.after_iff.mpr rfl, Cond.after_iff.mpr (eq_i res_at (Term.int_eval (1)) rfl), trivial⟩ ⟨hq.1, hq.2.1, (hq.2.2.sift fun y hy => Or.inr (N y hy)).mono (by decide) (by decide)⟩⟩
theorem main_1_1 : Claimed_1_1 := comes_1 fun _ _ _ _ _ _ h hF => ⟨h.1, hF⟩
theorem main_1_2 : Claimed_1_2 := comes_1 fun _ _ _ _ _ _ h hF => ⟨h.2.1, hF⟩
end Jvm.Pilot.@@N@@
namespace Jvm.Pilot.@@N@@
open Jvm Jvm.ClassFile Sem Op Lib Jvm.Free Jvm.Stand Jvm.Pilot.@@N@@.Jvm.D
/-! MADE BY PROGRAM (witnessworld.py) out of the Statement's table words and the real class files: 10 classes; the members and pool entries that the words name. The judged class is class 1, her method 1. -/
namespace start1
open Jvm.ClassFile
def u (s : String) : CpInfo := .utf8 (stringToUtf16 s)
/-- a pool by its gaps: so many unusable entries, then the entry; so many at the end -/
def gap : Nat → List CpInfo → List CpInfo
  | 0, r => r
  | n + 1, r => .unusable :: gap n r
def poolList (es : List (Nat × CpInfo)) (last : Nat) : List CpInfo := es.foldr (fun e r => gap e.1 (e.2 :: r)) (gap last [])
def pool (es : List (Nat × CpInfo)) (last : Nat) : Array CpInfo := ⟨poolList es last⟩
def fileOf (pool : Array CpInfo) (this : Nat) (attrs : Array Attribute := #[]) (ms : Array MethodInfo := #[]) (fl : Nat := 33) (sup : Nat := 0) (ifs : Array Nat := #[]) (fds : Array FieldInfo := #[]) : ClassFile where
  minorVersion := 0
  majorVersion := 65
  constantPool := pool
  accessFlags := fl
  thisClass := this
  superClass := sup
  interfaces := ifs
  fields := fds
  methods := ms
  attributes := attrs
def plain (name : String) (sup : Option ClassId) : Class where
  name := name
  kind := .ordinary
  loader := none
  accessFlags := 33
  super := sup
  interfaces := #[]
  cf := none
  fields := #[]
  methods := #[]
  instanceTypes := #[]
  staticTypes := #[]
  resolved := #[]
  callSites := []
  init := .initialized
  statics := none
  mirror := none

def pool0 : Array CpInfo := pool [(5, u "<init>"), (0, u "()V"), (1, .class_ 10), (1, u "java/lang/Object")] 113

def k0c0 : Code := { maxStack := 0, maxLocals := 1, code := object_method_1_code, exceptionTable := #[], attributes := #[] }
def k0m0 : Method := { name := "<init>", desc := "()V", sig := { parameters := [], returnType := none }, accessFlags := 1, code := some k0c0 }
/-- java/lang/Object -/
def k0 : Class := { plain "java/lang/Object" none with
  accessFlags := 33
  interfaces := #[]
  cf := some (fileOf pool0 8 #[] #[{ accessFlags := 1, nameIndex := 5, descriptorIndex := 6, attributes := #[] }] 33 0 #[] #[])
  fields := #[]
  methods := #[k0m0]
  instanceTypes := #[]
  staticTypes := #[]
  resolved := Array.replicate 124 none
  statics := none }

def pool1 : Array CpInfo := pool [(2, .class_ 4), (1, u "java/lang/Object"), (0, u "<init>"), (0, u "()V"), (0, .integer 2147483647), (0, .methodref 9 10), (0, .class_ 11), (0, .nameAndType 12 13), (0, u "java/lang/Math"), (0, u "max"), (0, u "(II)I"), (0, .class_ 15), (0, u "latchwork/scenario/ValueRanges"), (0, .methodref 14 17), (0, .nameAndType 5 18), (0, u "(II)V"), (0, .methodref 14 20), (0, .nameAndType 21 22), (0, u "owner"), (0, u "(I)I"), (0, .class_ 24), (0, u "latchwork/scenario/ValueRangesOwnerPinLaw"), (2, u "law"), (0, u "(III)Z")] 3

def k1m0 : Method := { name := "<init>", desc := "()V", sig := { parameters := [], returnType := none }, accessFlags := 1, code := none }
def k1c1 : Code := { maxStack := 6, maxLocals := 14, code := code, exceptionTable := #[], attributes := #[] }
def k1m1 : Method := { name := "law", desc := "(III)Z", sig := { parameters := [.int, .int, .int], returnType := some .boolean }, accessFlags := 9, code := some k1c1 }
/-- latchwork/scenario/ValueRangesOwnerPinLaw -/
def k1 : Class := { plain "latchwork/scenario/ValueRangesOwnerPinLaw" (some 0) with
  accessFlags := 49
  interfaces := #[]
  cf := some (fileOf pool1 23 #[] #[{ accessFlags := 1, nameIndex := 5, descriptorIndex := 6, attributes := #[] }, { accessFlags := 9, nameIndex := 27, descriptorIndex := 28, attributes := #[] }] 49 2 #[] #[])
  fields := #[]
  methods := #[k1m0, k1m1]
  instanceTypes := #[]
  staticTypes := #[]
  resolved := Array.replicate 32 none
  statics := none }

def pool2 : Array CpInfo := pool [(1, .class_ 2), (0, u "java/lang/Math"), (1, .class_ 6), (1, u "java/lang/Object"), (0, u "<init>"), (0, u "()V"), (89, .class_ 100), (1, u "java/lang/Math$RandomNumberGeneratorHolder"), (71, u "negativeZeroFloatBits"), (0, u "J"), (2, u "negativeZeroDoubleBits"), (21, u "max"), (46, u "$assertionsDisabled"), (0, u "Z"), (88, u "(II)I"), (2, u "twoToTheDoubleScaleDown"), (0, u "D"), (4, u "twoToTheDoubleScaleUp"), (9, u "E"), (3, u "PI"), (2, u "TAU"), (2, u "DEGREES_TO_RADIANS"), (0, u "RADIANS_TO_DEGREES")] 94

def k2m0 : Method := { name := "<init>", desc := "()V", sig := { parameters := [], returnType := none }, accessFlags := 2, code := none }
def k2c1 : Code := { maxStack := 2, maxLocals := 2, code := jdk_29_method_65_code, exceptionTable := #[], attributes := #[] }
def k2m1 : Method := { name := "max", desc := "(II)I", sig := { parameters := [.int, .int], returnType := some .int }, accessFlags := 9, code := some k2c1 }
/-- java/lang/Math -/
def k2 : Class := { plain "java/lang/Math" (some 0) with
  accessFlags := 49
  interfaces := #[]
  cf := some (fileOf pool2 1 #[.nestMembers #[98]] #[{ accessFlags := 2, nameIndex := 7, descriptorIndex := 8, attributes := #[] }, { accessFlags := 9, nameIndex := 198, descriptorIndex := 335, attributes := #[] }] 49 4 #[] #[{ accessFlags := 25, nameIndex := 354, descriptorIndex := 339, attributes := #[] }, { accessFlags := 25, nameIndex := 358, descriptorIndex := 339, attributes := #[] }, { accessFlags := 25, nameIndex := 361, descriptorIndex := 339, attributes := #[] }, { accessFlags := 26, nameIndex := 364, descriptorIndex := 339, attributes := #[] }, { accessFlags := 26, nameIndex := 365, descriptorIndex := 339, attributes := #[] }, { accessFlags := 26, nameIndex := 172, descriptorIndex := 173, attributes := #[] }, { accessFlags := 26, nameIndex := 176, descriptorIndex := 173, attributes := #[] }, { accessFlags := 8, nameIndex := 344, descriptorIndex := 339, attributes := #[] }, { accessFlags := 8, nameIndex := 338, descriptorIndex := 339, attributes := #[] }, { accessFlags := 4120, nameIndex := 245, descriptorIndex := 246, attributes := #[] }])
  fields := #[{ name := "E", type := .double, accessFlags := 25, slot := 0, constantValue := 0 }, { name := "PI", type := .double, accessFlags := 25, slot := 1, constantValue := 0 }, { name := "TAU", type := .double, accessFlags := 25, slot := 2, constantValue := 0 }, { name := "DEGREES_TO_RADIANS", type := .double, accessFlags := 26, slot := 3, constantValue := 0 }, { name := "RADIANS_TO_DEGREES", type := .double, accessFlags := 26, slot := 4, constantValue := 0 }, { name := "negativeZeroFloatBits", type := .long, accessFlags := 26, slot := 5, constantValue := 0 }, { name := "negativeZeroDoubleBits", type := .long, accessFlags := 26, slot := 6, constantValue := 0 }, { name := "twoToTheDoubleScaleUp", type := .double, accessFlags := 8, slot := 7, constantValue := 0 }, { name := "twoToTheDoubleScaleDown", type := .double, accessFlags := 8, slot := 8, constantValue := 0 }, { name := "$assertionsDisabled", type := .boolean, accessFlags := 4120, slot := 9, constantValue := 0 }]
  methods := #[k2m0, k2m1]
  instanceTypes := #[]
  staticTypes := #[.double, .double, .double, .double, .double, .long, .long, .double, .double, .boolean]
  resolved := Array.replicate 460 none
  statics := none }

def pool3 : Array CpInfo := pool [(1, .methodref 2 3), (0, .class_ 4), (0, .nameAndType 5 6), (0, u "java/lang/Object"), (0, u "<init>"), (0, u "()V"), (0, .fieldref 8 9), (0, .class_ 10), (0, .nameAndType 11 12), (0, u "latchwork/scenario/ValueRanges"), (0, u "total"), (0, u "I"), (0, .fieldref 8 14), (0, .nameAndType 15 12), (0, u "producers"), (0, u "(II)V"), (3, u "(I)I"), (1, u "owner")] 2

def k3c0 : Code := { maxStack := 2, maxLocals := 3, code := prog_79_method_1_code, exceptionTable := #[], attributes := #[] }
def k3m0 : Method := { name := "<init>", desc := "(II)V", sig := { parameters := [.int, .int], returnType := none }, accessFlags := 1, code := some k3c0 }
def k3c1 : Code := { maxStack := 4, maxLocals := 2, code := prog_79_method_4_code, exceptionTable := #[], attributes := #[] }
def k3m1 : Method := { name := "owner", desc := "(I)I", sig := { parameters := [.int], returnType := some .int }, accessFlags := 1, code := some k3c1 }
/-- latchwork/scenario/ValueRanges -/
def k3 : Class := { plain "latchwork/scenario/ValueRanges" (some 0) with
  accessFlags := 49
  interfaces := #[]
  cf := some (fileOf pool3 8 #[] #[{ accessFlags := 1, nameIndex := 5, descriptorIndex := 16, attributes := #[] }, { accessFlags := 1, nameIndex := 22, descriptorIndex := 20, attributes := #[] }] 49 2 #[] #[{ accessFlags := 18, nameIndex := 11, descriptorIndex := 12, attributes := #[] }, { accessFlags := 18, nameIndex := 15, descriptorIndex := 12, attributes := #[] }])
  fields := #[{ name := "total", type := .int, accessFlags := 18, slot := 0, constantValue := 0 }, { name := "producers", type := .int, accessFlags := 18, slot := 1, constantValue := 0 }]
  methods := #[k3m0, k3m1]
  instanceTypes := #[.int, .int]
  staticTypes := #[]
  resolved := Array.replicate 25 none
  statics := none }

def pool4 : Array CpInfo := pool [(1, u "java/lang/Cloneable"), (0, .class_ 1), (0, u "java/lang/Object"), (0, .class_ 3)] 3

/-- java/lang/Cloneable -/
def k4 : Class := { plain "java/lang/Cloneable" (some 0) with
  accessFlags := 1537
  interfaces := #[]
  cf := some (fileOf pool4 2 #[] #[] 1537 4 #[] #[])
  fields := #[]
  methods := #[]
  instanceTypes := #[]
  staticTypes := #[]
  resolved := Array.replicate 8 none
  statics := none }

def pool5 : Array CpInfo := pool [(1, u "java/io/Serializable"), (0, .class_ 1), (0, u "java/lang/Object"), (0, .class_ 3)] 3

/-- java/io/Serializable -/
def k5 : Class := { plain "java/io/Serializable" (some 0) with
  accessFlags := 1537
  interfaces := #[]
  cf := some (fileOf pool5 2 #[] #[] 1537 4 #[] #[])
  fields := #[]
  methods := #[]
  instanceTypes := #[]
  staticTypes := #[]
  resolved := Array.replicate 8 none
  statics := none }

/-- the primitive byte -/
def k6 : Class := { plain "byte" none with kind := .primitive 'B', accessFlags := 0x411 }
/-- [B -/
def k7 : Class := { plain "[B" (some 0) with kind := .array 6 .byte, interfaces := #[4, 5], accessFlags := 1041 }

/-- the primitive int -/
def k8 : Class := { plain "int" none with kind := .primitive 'I', accessFlags := 0x411 }
/-- [I -/
def k9 : Class := { plain "[I" (some 0) with kind := .array 8 .int, interfaces := #[4, 5], accessFlags := 1041 }

def heap : Heap := #[]
def classes : Array Class := #[k0, k1, k2, k3, k4, k5, k6, k7, k8, k9]
def interned : List (Array UInt16 × Addr) := []
def slotsUsed : Nat := 0
def theMethod : MethodId := ⟨1, 1⟩
def args0 : Array Value := #[.int 5, .int 6, .int 7]
def aboutOver (below : List Frame) : State where
  vm := { classes := classes, interned := interned.toArray }
  heap := heap
  slotsUsed := slotsUsed
  threads := #[{ frames := .invoking theMethod args0 :: below }]
def below0 : List Frame := [.native { method := ⟨0, 0⟩, args := #[] }]
def about1 : State := aboutOver below0
def p0 : Program := .bare "" "" ""
def e0 : Env := launch0.env 0 0 0
theorem w_frames : about1.frames = Frame.invoking theMethod args0 :: below0 := rfl
set_option maxRecDepth 65536 in
theorem w_args : argsFit about1.vm theMethod args0 = true := by decide +kernel
set_option maxRecDepth 65536 in
theorem w_heap : heapFits about1 = true := by decide +kernel
set_option maxRecDepth 65536 in
theorem w_runnable : about1.curStatus? = some .runnable := by decide +kernel
set_option maxRecDepth 65536 in
theorem w_alone : about1.alone = true := by decide +kernel
set_option maxRecDepth 65536 in
theorem w_named : about1.methodNamed? x = some theMethod := by decide +kernel
set_option maxRecDepth 65536 in
theorem w_hears : about1.hears theMethod below0 = true := by decide +kernel
set_option maxRecDepth 65536 in
theorem w_ripe : about1.ripe theMethod args0 below0 = true := by decide +kernel
theorem w_running : about1.status = .running := rfl
set_option maxRecDepth 65536 in
theorem w_room : about1.hasRoom e0.platform room_1 = true :=
  launch0.hasRoom_least _ room_1 (by decide +kernel) (by decide +kernel) (by decide +kernel) (by decide +kernel) (by decide +kernel) (by decide +kernel)
theorem allAtoms_all (ts : List Jvm.Cond) (a : Array Jvm.Value) (st : Jvm.State) : (allAtoms ts).before a st = ts.all (fun c => c.before a st) := by
  induction ts with
  | nil => rfl
  | cons c t ih =>
    show (Jvm.Cond.and c (allAtoms t)).before a st = _
    rw [Jvm.Cond.before_and, ih, List.all_cons]
def words1 : List Jvm.Cond := Jvm.Cond.code x code maxLocals ret :: tables_1
/-- a 'code' word, met by the world's own term for the bytes: nothing is compared byte by byte -/
theorem code_word {y : MethodName} {bytes : ByteArray} {mx : Nat} {rt : Option FieldType} {a : Array Value} {s : State} {m : MethodId} {meth : Method} {c : Code} (h1 : s.methodNamed? y = some m) (h2 : s.vm.method? m = some meth) (h3 : meth.code = some c) (h4 : c.code = bytes)
    (h5 : (c.maxLocals == mx && c.exceptionTable.isEmpty && decide (c.maxStack ≤ mostOperands) && decide (meth.sig.returnType = rt) && !meth.locks && decide (parseMethodDescriptor y.desc = some meth.sig)) = true) : (Jvm.Cond.code y bytes mx rt).before a s = true := by
  simp only [Bool.and_eq_true, beq_iff_eq, Bool.not_eq_true', decide_eq_true_eq] at h5
  obtain ⟨⟨⟨⟨⟨g1, g2⟩, g3⟩, g4⟩, g5⟩, g6⟩ := h5
  simp [Cond.before, Cond.holds, Cond.value, h1, h2, h3, h4, g1, g2, g3, g4, g5, g6]
def isCode : Jvm.Cond → Bool
  | .code _ _ _ _ => true
  | _ => false
theorem all_split {L : List Jvm.Cond} {P : Jvm.Cond → Bool} (h1 : L.all (fun c => isCode c || P c) = true) (h2 : ∀ c ∈ L.filter isCode, P c = true) : L.all P = true := by
  refine List.all_eq_true.mpr fun c hc => ?_
  have h := List.all_eq_true.mp h1 c hc
  rcases Bool.eq_false_or_eq_true (isCode c) with hi | hi
  · exact h2 c (List.mem_filter.mpr ⟨hc, hi⟩)
  · simpa [hi] using h
set_option maxRecDepth 65536 in
theorem w_c0 : (Jvm.Cond.code x code maxLocals ret).before args0 about1 = true := code_word (m := ⟨1, 1⟩) (meth := k1m1) (c := k1c1) (by decide +kernel) rfl rfl rfl (by decide +kernel)
set_option maxRecDepth 65536 in
theorem w_c1 : (Jvm.Cond.code ({ cls := "java/lang/Math", name := "max", desc := "(II)I" } : Jvm.MethodName) jdk_29_method_65_code (2 : Nat) (Option.some Jvm.ClassFile.FieldType.int)).before args0 about1 = true := code_word (m := ⟨2, 1⟩) (meth := k2m1) (c := k2c1) (by decide +kernel) rfl rfl rfl (by decide +kernel)
set_option maxRecDepth 65536 in
theorem w_c2 : (Jvm.Cond.code ({ cls := "latchwork/scenario/ValueRanges", name := "<init>", desc := "(II)V" } : Jvm.MethodName) prog_79_method_1_code (3 : Nat) (Option.none : Option Jvm.ClassFile.FieldType)).before args0 about1 = true := code_word (m := ⟨3, 0⟩) (meth := k3m0) (c := k3c0) (by decide +kernel) rfl rfl rfl (by decide +kernel)
set_option maxRecDepth 65536 in
theorem w_c3 : (Jvm.Cond.code ({ cls := "java/lang/Object", name := "<init>", desc := "()V" } : Jvm.MethodName) object_method_1_code (1 : Nat) (Option.none : Option Jvm.ClassFile.FieldType)).before args0 about1 = true := code_word (m := ⟨0, 0⟩) (meth := k0m0) (c := k0c0) (by decide +kernel) rfl rfl rfl (by decide +kernel)
set_option maxRecDepth 65536 in
theorem w_c4 : (Jvm.Cond.code ({ cls := "latchwork/scenario/ValueRanges", name := "owner", desc := "(I)I" } : Jvm.MethodName) prog_79_method_4_code (2 : Nat) (Option.some Jvm.ClassFile.FieldType.int)).before args0 about1 = true := code_word (m := ⟨3, 1⟩) (meth := k3m1) (c := k3c1) (by decide +kernel) rfl rfl rfl (by decide +kernel)
def codes1 : List Jvm.Cond := [Jvm.Cond.code x code maxLocals ret, Jvm.Cond.code ({ cls := "java/lang/Math", name := "max", desc := "(II)I" } : Jvm.MethodName) jdk_29_method_65_code (2 : Nat) (Option.some Jvm.ClassFile.FieldType.int), Jvm.Cond.code ({ cls := "latchwork/scenario/ValueRanges", name := "<init>", desc := "(II)V" } : Jvm.MethodName) prog_79_method_1_code (3 : Nat) (Option.none : Option Jvm.ClassFile.FieldType), Jvm.Cond.code ({ cls := "java/lang/Object", name := "<init>", desc := "()V" } : Jvm.MethodName) object_method_1_code (1 : Nat) (Option.none : Option Jvm.ClassFile.FieldType), Jvm.Cond.code ({ cls := "latchwork/scenario/ValueRanges", name := "owner", desc := "(I)I" } : Jvm.MethodName) prog_79_method_4_code (2 : Nat) (Option.some Jvm.ClassFile.FieldType.int)]
set_option maxRecDepth 65536 in
theorem codes_eq : words1.filter isCode = codes1 := rfl
theorem w_codes : ∀ c ∈ words1.filter isCode, c.before args0 about1 = true := by
  rw [codes_eq]
  intro c hc
  simp only [codes1, List.mem_cons, List.not_mem_nil, or_false] at hc
  rcases hc with rfl | rfl | rfl | rfl | rfl
  · exact w_c0
  · exact w_c1
  · exact w_c2
  · exact w_c3
  · exact w_c4
set_option maxRecDepth 65536 in
theorem w_t1 : words1.all (fun c => isCode c || c.before args0 about1) = true := by decide +kernel
theorem w_tables : (allAtoms (Jvm.Cond.code x code maxLocals ret :: tables_1)).before args0 about1 = true := by
  rw [allAtoms_all]
  show words1.all (fun c => c.before args0 about1) = true
  refine all_split ?_ w_codes
  rw [w_t1]
set_option maxRecDepth 65536 in
theorem w_case : (Jvm.Cond.and given_1 narrow_1).before args0 about1 = true := by decide +kernel
theorem w_applies : (headSpec (Jvm.Cond.code x code maxLocals ret :: tables_1) room_1).applies x e0.platform about1 = true :=
  (Spec.applies_iff w_frames).mpr ⟨w_running, w_runnable, w_alone, w_named, w_hears, w_ripe, w_room, w_tables⟩
theorem atStart : AtStart classFile x code maxLocals ret World_1 tables_1 room_1 Calls_1 rest_1 Pre_1 launch0 p0 e0 about1 theMethod args0 below0 :=
  ⟨lists_1, trivial, launch0.admits_env _ _ _, launch0.least_env, fairChoices_fair.cas, fairChoices_fair.clock, w_frames, w_args, w_heap, w_applies, trivial, trivial, w_case⟩
end start1
theorem witness_1 : WitnessClaimed_1 := ⟨start1.p0, start1.e0, start1.about1, start1.theMethod, start1.args0, start1.below0, start1.atStart⟩
end Jvm.Pilot.@@N@@
