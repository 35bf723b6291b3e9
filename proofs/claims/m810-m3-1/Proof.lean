import JvmDerived
import JvmDerived.Pilot.@@N@@Statement
import JvmDerived.Pilot.@@N@@Code
set_option linter.unusedVariables false
set_option linter.unusedSimpArgs false
@@BLOCK:NumsL.lean.txt@@
namespace Jvm.RoadKit
open Sem ClassFile Op Lib Jvm.Stand Jvm.Free Jvm.LawKit
section OwnKit
variable {p : Program} {l : Launch} {e : Env} {R : Room} {s : State} {m : MethodId} {args : Array Value} {below : List Frame} {meth : Method} {c : Code} {T T' : State} {locs locs' : List Loc} {k n k' n' : Nat} {Z : State} {a0 : Array Value} {h h' h0 : Heap}
theorem retI (X : Stand p l e R s m args below meth c T locs k n) (hx : p.tables.exec = Jvm.exec) {pc : Nat} {Ls : Array Slot} {z : Int32} {rest : List Value} (hret : meth.sig.returnType = some .int) (hd : decode c.code pc = .ok (.ireturn, 1)) {fs : List Frame}
    (hl : ∀ (f : JFrame) (acts : List Action), f.method = m → f.locked = none → f.entered = [] → (doReturn e (T.setTop f) acts (some (.int z))).1 = T.setFrames fs) : Steps p.tables e below (T.setTop (mkF m pc Ls (.int z :: rest))) (T.setFrames fs) := by
  have hm' : T.vm.method? m = some meth := X.method'
  have hn : narrow .int (.int z) = .int z := rfl
  show Steps p.tables e below (T.setTop { method := m, pc := pc, locals := Ls, stack := _ :: rest, locked := none }) _
  jvm_step X.here [X.here.top, hx, hd, hm', hret, hn]
  first | (intro acts; rw [hl _ acts rfl rfl rfl]) | rw [hl _ _ rfl rfl rfl]
  exact Steps.refl _
/-- how a body may end: the instruction, the method's return type, what lies on the stack, what is handed back -/
def OwnRet (i : Instr) (ret : Option FieldType) (w v : Option Value) : Prop :=
  (i = .ireturn ∧ ∃ z : Int32, ret = some .int ∧ w = some (.int z) ∧ v = some (.int z)) ∨
  (i = .ireturn ∧ ∃ (t : FieldType) (z : Int32), ret = some t ∧ (t = .boolean ∨ t = .byte ∨ t = .char ∨ t = .short) ∧ w = some (.int z) ∧ v = some (.int (nar t z))) ∨
  (i = .lreturn ∧ ret = some .long ∧ ∃ z : Int64, w = some (.long z) ∧ v = some (.long z)) ∨
  (i = .areturn ∧ ∃ (t : FieldType) (u : Value), ret = some t ∧ t.isReference = true ∧ u.isRef = true ∧ narrow t u = u ∧ w = some u ∧ v = some u) ∨
  (i = .return_ ∧ ret = none ∧ w = none ∧ v = none)
/-- from the frame g the body comes to its return and leaves what Q says -/
def OwnFin (_X : Stand p l e R s m args below meth c T locs k n) (ret : Option FieldType) (Q : Option Value → Heap → List Loc → Prop) (K N : Nat) (g : JFrame) : Prop :=
  ∃ (i : Instr) (w v : Option Value) (T' : State) (locs' : List Loc) (k' n' pcr : Nat) (Ls : Array Slot), OwnRet i ret w v ∧ Stand p l e R s m args below meth c T' locs' k' n' ∧ k' ≤ K ∧ n' ≤ N ∧ Q v T'.heap locs' ∧ decode c.code pcr = .ok (i, 1) ∧
    ∀ t, Steps p.tables e below (T'.setTop (mkF m pcr Ls w.toList)) t → Steps p.tables e below (T.setTop g) t
variable {ret : Option FieldType} {Q : Option Value → Heap → List Loc → Prop} {K N : Nat} {g g' : JFrame}
theorem OwnFin.step {X : Stand p l e R s m args below meth c T locs k n} (X' : Stand p l e R s m args below meth c T' locs' k' n') (hs : ∀ t, Steps p.tables e below (T'.setTop g') t → Steps p.tables e below (T.setTop g) t) (hF : OwnFin X' ret Q K N g') : OwnFin X ret Q K N g := by
  obtain ⟨i, w, v, T2, locs2, k2, n2, pcr, Ls, h1, h2, h3, h4, h5, h6, h7⟩ := hF
  exact ⟨i, w, v, T2, locs2, k2, n2, pcr, Ls, h1, h2, h3, h4, h5, h6, fun t k => hs t (h7 t k)⟩
theorem OwnFin.retInt (X : Stand p l e R s m args below meth c T locs k n) {pc : Nat} {Ls : Array Slot} {z : Int32} (hd : decode c.code pc = .ok (.ireturn, 1)) (hk : k ≤ K) (hn : n ≤ N) (hQ : Q (some (.int z)) T.heap locs) : OwnFin X (some .int) Q K N (mkF m pc Ls [.int z]) :=
  ⟨.ireturn, some (.int z), _, T, locs, k, n, pc, Ls, Or.inl ⟨rfl, z, rfl, rfl, rfl⟩, X, hk, hn, hQ, hd, fun _ k => k⟩
theorem OwnFin.retNar (X : Stand p l e R s m args below meth c T locs k n) {t : FieldType} (ht : t = .boolean ∨ t = .byte ∨ t = .char ∨ t = .short) {pc : Nat} {Ls : Array Slot} {z : Int32} (hd : decode c.code pc = .ok (.ireturn, 1)) (hk : k ≤ K) (hn : n ≤ N) (hQ : Q (some (.int (nar t z))) T.heap locs) : OwnFin X (some t) Q K N (mkF m pc Ls [.int z]) :=
  ⟨.ireturn, some (.int z), _, T, locs, k, n, pc, Ls, Or.inr (Or.inl ⟨rfl, t, z, rfl, ht, rfl, rfl⟩), X, hk, hn, hQ, hd, fun _ k => k⟩
theorem OwnFin.retLong (X : Stand p l e R s m args below meth c T locs k n) {pc : Nat} {Ls : Array Slot} {z : Int64} (hd : decode c.code pc = .ok (.lreturn, 1)) (hk : k ≤ K) (hn : n ≤ N) (hQ : Q (some (.long z)) T.heap locs) : OwnFin X (some .long) Q K N (mkF m pc Ls [.long z]) :=
  ⟨.lreturn, some (.long z), _, T, locs, k, n, pc, Ls, Or.inr (Or.inr (Or.inl ⟨rfl, rfl, z, rfl, rfl⟩)), X, hk, hn, hQ, hd, fun _ k => k⟩
theorem OwnFin.retRef (X : Stand p l e R s m args below meth c T locs k n) {t : FieldType} {u : Value} (ht : t.isReference = true) (hu : u.isRef = true) (hnw : narrow t u = u) {pc : Nat} {Ls : Array Slot} (hd : decode c.code pc = .ok (.areturn, 1)) (hk : k ≤ K) (hn : n ≤ N) (hQ : Q (some u) T.heap locs) : OwnFin X (some t) Q K N (mkF m pc Ls [u]) :=
  ⟨.areturn, some u, _, T, locs, k, n, pc, Ls, Or.inr (Or.inr (Or.inr (Or.inl ⟨rfl, t, u, rfl, ht, hu, hnw, rfl, rfl⟩))), X, hk, hn, hQ, hd, fun _ k => k⟩
theorem OwnFin.retVoid (X : Stand p l e R s m args below meth c T locs k n) {pc : Nat} {Ls : Array Slot} (hd : decode c.code pc = .ok (.return_, 1)) (hk : k ≤ K) (hn : n ≤ N) (hQ : Q none T.heap locs) : OwnFin X none Q K N (mkF m pc Ls []) :=
  ⟨.return_, none, _, T, locs, k, n, pc, Ls, Or.inr (Or.inr (Or.inr (Or.inr ⟨rfl, rfl, rfl, rfl⟩))), X, hk, hn, hQ, hd, fun _ k => k⟩
theorem own_met {y : MethodName} {bytes : ByteArray} {maxL : Nat} {rm : Room} {ws : List Jvm.Cond} {as' : Array Value} {Ls : Array Slot} (hpf : plainFor y = true) (hent : ∀ m, entryFrame m as' maxL = mkF m 0 Ls [])
    (H : ∀ p e s m below meth c s₁ (X : Stand p l e rm s m as' below meth c s₁ [] 0 0), p.tables.exec = Jvm.exec → c.code = bytes → c.maxLocals = maxL → s.vm.findClass y.cls = some m.cls → meth.name = y.name → Z.Warmed39 s.vm → s₁.heap = h0 → OwnFin X ret Q rm.cells rm.slots (mkF m 0 Ls [])) :
    MetFree l y (head1 (Jvm.Cond.code y bytes maxL ret :: ws) rm) (fun a U => a = as' ∧ Z.Warmed39 U.vm ∧ U.heap = h0) (fun _ _ _ _ _ => True) (fun _ U o U' => ∃ v L, o = .returned v ∧ Q v U'.heap L ∧ FrameEnd U o U' L rm.cells rm.slots) := by
  refine MetFree.of_bodySF hpf hisR ?_
  intro p e s m args below meth c s₁ Bd hml0 hP hK
  obtain ⟨rfl, hZ, hh⟩ := hP
  have hx := Bd.exec
  have hby := Bd.bytes
  have hown : s.vm.findClass y.cls = some m.cls := findClass_of_methodNamed Bd.named
  have hnm := (name_of_methodNamed Bd.named Bd.method).1
  have X0 : Stand p l e rm s m args below meth c s₁ [] 0 0 := Stand.of_body Bd
  have e0 : s₁.heap = h0 := by rw [← hh, Bd.state]; rfl
  obtain ⟨i, w, v, T2, locs2, k2, n2, pcr, Ls2, h1, X2, h3, h4, h5, h6, h7⟩ := H p e s m below meth c s₁ X0 hx hby hml0 hown hnm hZ e0
  have hret := Bd.returns
  have hv : meth.sig.returnType = none → v = none := by
    intro q
    rw [hret] at q
    rcases h1 with ⟨-, z, hr, -⟩ | ⟨-, t, z, hr, -⟩ | ⟨-, hr, -⟩ | ⟨-, t, u, hr, -⟩ | ⟨-, -, -, hr⟩
    · rw [hr] at q; cases q
    · rw [hr] at q; cases q
    · rw [hr] at q; cases q
    · rw [hr] at q; cases q
    · exact hr
  obtain ⟨fs, hr, hrun, hended, hW, hsame⟩ := X2.leave (v := v) hv
  refine ⟨_, _, ?_, hrun, hended, _, _, rfl, h5, ⟨_, rfl⟩, hW, hsame.mono h3 h4⟩
  rw [hent]
  apply h7
  rcases h1 with ⟨rfl, z, rfl, rfl, rfl⟩ | ⟨rfl, t, z, rfl, ht, rfl, rfl⟩ | ⟨rfl, rfl, z, rfl, rfl⟩ | ⟨rfl, t, u, rfl, ht, hu, hnw, rfl, rfl⟩ | ⟨rfl, rfl, rfl, rfl⟩
  · exact retI X2 hx hret h6 hr
  · exact retN X2 hx hret ht h6 hr
  · exact retOut X2 hx hret rfl (Or.inr (Or.inl ⟨rfl, rfl, z, rfl⟩)) h6 hr
  · exact retOut X2 hx hret hnw (Or.inr (Or.inr (Or.inr (Or.inr ⟨rfl, ht, hu⟩)))) h6 hr
  · exact X2.returnOut hx hret h6 hr
theorem OwnFin.wide {X : Stand p l e R s m args below meth c T locs k n} {K' N' : Nat} (F : OwnFin X ret Q K N g) (h1 : K ≤ K') (h2 : N ≤ N') : OwnFin X ret Q K' N' g := by
  obtain ⟨i, w, v, T2, locs2, k2, n2, pcr, Ls, q1, q2, q3, q4, q5, q6, q7⟩ := F
  exact ⟨i, w, v, T2, locs2, k2, n2, pcr, Ls, q1, q2, Nat.le_trans q3 h1, Nat.le_trans q4 h2, q5, q6, q7⟩
/-- a callee that leaves the heap alone: what it hands back -/
def PQ (w : Option Value) (h0 : Heap) (n0 : Nat) : Option Value → Heap → List Loc → Prop := fun v h L => v = w ∧ h = h0 ∧ Fr n0 L
def LQ (n0 : Nat) : Option Value → Heap → List Loc → Prop := fun v _ L => v = some (.int 1) ∧ Fr n0 L
theorem own_callS (X : Stand p l e R s m args below meth c T locs k n) (hx : p.tables.exec = Jvm.exec) (hZ : Z.Warmed39 s.vm) {own : String} {index : Nat} {y : MethodName} {bytes : ByteArray} {maxL W : Nat} {rt : Option FieldType} {rm : Room} {argsL rest : List Value} {ps : List FieldType} {r : Option FieldType} {Qc : Option Value → Heap → List Loc → Prop}
    (hown : s.vm.findClass own = some m.cls) (w1 : (Jvm.Cond.methodLink own index y).before a0 Z = true) (w2 : (Jvm.Cond.static y).before a0 Z = true) (w3 : (Jvm.Cond.initialized y.cls).before a0 Z = true) (w4 : (Jvm.Cond.code y bytes maxL rt).before a0 Z = true) (hy : y.cls ≠ "java/lang/invoke/MethodHandle" ∧ y.cls ≠ "java/lang/invoke/VarHandle")
    (hM : MetFree l y (head1 [Jvm.Cond.code y bytes maxL rt] rm) (fun a U => a = argsL.toArray ∧ Z.Warmed39 U.vm ∧ U.heap = h) (fun _ _ _ _ _ => True) (fun _ U o U' => ∃ v L, o = .returned v ∧ Qc v U'.heap L ∧ FrameEnd U o U' L rm.cells rm.slots))
    (hf : rm.frames + 1 ≤ R.frames) (hl : W + (maxL + 11) + rm.locals ≤ R.locals) (hc : k + rm.cells ≤ R.cells) (hs : n + rm.slots ≤ R.slots) (eT : T.heap = h)
    (hg : g.method = m) (hsize : g.locals.size = c.maxLocals) (hd : parseMethodDescriptor y.desc = some ⟨ps, r⟩) (hlen : argsL.length = ps.length) (hstack : g.stack = argsL.reverse ++ rest) (hW : 2 * g.monitorRoom + (rest.map fun v => v.category).sum ≤ W) (hdg : decode c.code g.pc = .ok (.invokestatic index, 3)) :
    ∃ v T' L, Stand p l e R s m args below meth c T' (locs ++ L) (k + rm.cells) (n + rm.slots) ∧ Qc v T'.heap L ∧ ∀ t, Steps p.tables e below (T'.setTop { g with pc := g.pc + 3, stack := v.toList ++ rest }) t → Steps p.tables e below (T.setTop g) t := by
  obtain ⟨v, vm1, ⟨T', L', k', n'⟩, -, X', ⟨Lc, hQ, l1, y1, z1⟩, st⟩ := Jvm.LawKit.callS X hx (y := y) hown (mvT hZ w1) (mvT hZ w2) (mvT hZ w3) (mvT hZ w4) hy (backOf (W := W) hM hZ w4 w3 hf hl) hg hsize (argsL := argsL) (rest := rest) (lenOf hd hlen) hstack hW hdg (fun _ _ => ⟨rfl, eT, hc, hs⟩)
  dsimp only [Pt.U, Pt.locs, Pt.cells, Pt.slots] at X' l1 y1 z1 st hQ
  subst l1 y1 z1
  exact ⟨v, T', Lc, X', hQ, st⟩
theorem own_callI (X : Stand p l e R s m args below meth c T locs k n) (hx : p.tables.exec = Jvm.exec) (hZ : Z.Warmed39 s.vm) {own : String} {index : Nat} {y : MethodName} {bytes : ByteArray} {maxL W : Nat} {rm : Room} {a : Addr} {argsL rest : List Value} {ps : List FieldType} {r : Option FieldType} {Qc : Option Value → Heap → List Loc → Prop}
    (hy1 : y.name = "<init>") (hown : s.vm.findClass own = some m.cls) (w1 : (Jvm.Cond.methodLink own index y).before a0 Z = true) (w2 : (Jvm.Cond.instanceMethod y).before a0 Z = true) (w3 : (Jvm.Cond.initialized y.cls).before a0 Z = true) (w4 : (Jvm.Cond.code y bytes maxL none).before a0 Z = true) (hy : y.cls ≠ "java/lang/invoke/MethodHandle" ∧ y.cls ≠ "java/lang/invoke/VarHandle")
    (hM : MetFree l y (head1 [Jvm.Cond.code y bytes maxL none] rm) (fun a' U => a' = (Value.ref a :: argsL).toArray ∧ Z.Warmed39 U.vm ∧ U.heap = h) (fun _ _ _ _ _ => True) (fun _ U o U' => ∃ v L, o = .returned v ∧ Qc v U'.heap L ∧ FrameEnd U o U' L rm.cells rm.slots))
    (hf : rm.frames + 1 ≤ R.frames) (hl : W + (maxL + 11) + rm.locals ≤ R.locals) (hc : k + rm.cells ≤ R.cells) (hs : n + rm.slots ≤ R.slots) (eT : T.heap = h)
    (hg : g.method = m) (hsize : g.locals.size = c.maxLocals) (hd : parseMethodDescriptor y.desc = some ⟨ps, r⟩) (hlen : argsL.length = ps.length) (hstack : g.stack = argsL.reverse ++ .ref a :: rest) (hW : 2 * g.monitorRoom + (rest.map fun v => v.category).sum ≤ W) (hdg : decode c.code g.pc = .ok (.invokespecial index, 3)) :
    ∃ v T' L, Stand p l e R s m args below meth c T' (locs ++ L) (k + rm.cells) (n + rm.slots) ∧ Qc v T'.heap L ∧ ∀ t, Steps p.tables e below (T'.setTop { g with pc := g.pc + 3, stack := v.toList ++ rest }) t → Steps p.tables e below (T.setTop g) t := by
  obtain ⟨v, vm1, ⟨T', L', k', n'⟩, -, X', ⟨Lc, hQ, l1, y1, z1⟩, st⟩ := X.specialBack hx (y := y) hy1 hown (mvT hZ w1) (mvT hZ w2) (mvT hZ w4) hy (backOf (W := W) hM hZ w4 w3 hf hl) hg hsize (Steps.refl _) (a := a) (argsL := argsL) (rest := rest) (lenOf hd hlen) hstack hW hdg (fun _ _ => ⟨rfl, eT, hc, hs⟩)
  dsimp only [Pt.U, Pt.locs, Pt.cells, Pt.slots] at X' l1 y1 z1 st hQ
  subst l1 y1 z1
  exact ⟨v, T', Lc, X', hQ, fun t k => st.trans k⟩
theorem own_callV (X : Stand p l e R s m args below meth c T locs k n) (hx : p.tables.exec = Jvm.exec) (hZ : Z.Warmed39 s.vm) {own C : String} {index : Nat} {y : MethodName} {bytes : ByteArray} {maxL W : Nat} {rt : Option FieldType} {rm : Room} {a : Addr} {argsL rest : List Value} {ps : List FieldType} {r : Option FieldType} {Qc : Option Value → Heap → List Loc → Prop}
    (hown : s.vm.findClass own = some m.cls) (w1 : (Jvm.Cond.methodLink own index y).before a0 Z = true) (w2 : (Jvm.Cond.declares y).before a0 Z = true) (w5 : (Jvm.Cond.selects C y y).before a0 Z = true) (w6 : (Jvm.Cond.instanceMethod y).before a0 Z = true) (w3 : (Jvm.Cond.initialized y.cls).before a0 Z = true) (w4 : (Jvm.Cond.code y bytes maxL rt).before a0 Z = true) (hy : y.cls ≠ "java/lang/invoke/MethodHandle" ∧ y.cls ≠ "java/lang/invoke/VarHandle")
    (E : Exa Z h a C)
    (hM : MetFree l y (head1 [Jvm.Cond.code y bytes maxL rt] rm) (fun a' U => a' = (Value.ref a :: argsL).toArray ∧ Z.Warmed39 U.vm ∧ U.heap = h) (fun _ _ _ _ _ => True) (fun _ U o U' => ∃ v L, o = .returned v ∧ Qc v U'.heap L ∧ FrameEnd U o U' L rm.cells rm.slots))
    (hf : rm.frames + 1 ≤ R.frames) (hl : W + (maxL + 11) + rm.locals ≤ R.locals) (hc : k + rm.cells ≤ R.cells) (hs : n + rm.slots ≤ R.slots) (eT : T.heap = h)
    (hg : g.method = m) (hsize : g.locals.size = c.maxLocals) (hd : parseMethodDescriptor y.desc = some ⟨ps, r⟩) (hlen : argsL.length = ps.length) (hstack : g.stack = argsL.reverse ++ .ref a :: rest) (hW : 2 * g.monitorRoom + (rest.map fun v => v.category).sum ≤ W) (hdg : decode c.code g.pc = .ok (.invokevirtual index, 3)) :
    ∃ v T' L, Stand p l e R s m args below meth c T' (locs ++ L) (k + rm.cells) (n + rm.slots) ∧ Qc v T'.heap L ∧ ∀ t, Steps p.tables e below (T'.setTop { g with pc := g.pc + 3, stack := v.toList ++ rest }) t → Steps p.tables e below (T.setTop g) t := by
  obtain ⟨cq, kq, q1, q2, q3⟩ := isOf hZ eT E
  obtain ⟨v, vm1, ⟨T', L', k', n'⟩, -, X', ⟨Lc, hQ, l1, y1, z1⟩, st⟩ := X.virtualBack hx (y := y) (z := y) hown (mvT hZ w1) (mvT hZ w2) (notFace_of_selects (args := #[]) (mvT hZ w5)) (mvT hZ w5) (mvT hZ w6) hy (backOf (W := W) hM hZ w4 w3 hf hl) q1 q3 hg hsize (Steps.refl _) (argsL := argsL) (rest := rest) (lenOf hd hlen) hstack hW hdg (fun _ _ => ⟨rfl, eT, hc, hs⟩)
  dsimp only [Pt.U, Pt.locs, Pt.cells, Pt.slots] at X' l1 y1 z1 st hQ
  subst l1 y1 z1
  exact ⟨v, T', Lc, X', hQ, fun t k => st.trans k⟩
theorem lrem_eq_mod (x y : Int64) : x - (x / y) * y = x % y := by
  apply Int64.toInt_inj.mp
  have h1 := Int64.le_toInt (x % y)
  have h2 := Int64.toInt_lt (x % y)
  rw [Int64.toInt_sub, Int64.toInt_mul, Int64.toInt_div, Int.bmod_mul_bmod, Int.sub_bmod_bmod, Int.mul_comm (x.toInt.tdiv y.toInt), ← Int.tmod_def, ← Int64.toInt_mod]
  exact Int.bmod_eq_of_le_mul_two (by omega) (by omega)
theorem lremM (X : Stand p l e R s m args below meth c T locs k n) (hx : p.tables.exec = Jvm.exec) (hg : g.method = m) {x y : Int64} {rest : List Value} (hd : decode c.code g.pc = .ok (.lrem, 1)) (hs : g.stack = .long y :: .long x :: rest) (hy : y ≠ 0) {target : State}
    (hr : Steps p.tables e below (T.setTop { g with pc := g.pc + 1, stack := .long (x % y) :: rest }) target) : Steps p.tables e below (T.setTop g) target := by
  exact XT.lrem X.here hx hg hd hs hy (by rw [lrem_eq_mod]; exact hr)
theorem cl_lt (x y : Int64) : XT.cmpL x y < 0 ↔ x < y := by
  unfold XT.cmpL
  split
  · rename_i q; simp only [Int64.lt_iff_toInt_lt] at *; constructor <;> intro w <;> first | (exact absurd w (by decide)) | omega
  · split
    · rename_i q r; subst r; constructor <;> intro w
      · exact absurd w (by decide)
      · exact absurd w q
    · rename_i q r; constructor <;> intro w
      · simp only [Int64.lt_iff_toInt_lt, ← Int64.toInt_inj] at *; omega
      · decide
theorem cl_gt (x y : Int64) : 0 < XT.cmpL x y ↔ y < x := by
  unfold XT.cmpL
  split
  · rename_i q; exact ⟨fun _ => q, fun _ => by decide⟩
  · rename_i q
    constructor
    · intro w; split at w <;> exact absurd w (by decide)
    · intro w; exact absurd w q
theorem cl_eq (x y : Int64) : XT.cmpL x y = 0 ↔ x = y := by
  unfold XT.cmpL
  split
  · rename_i q; constructor
    · intro w; exact absurd w (by decide)
    · intro w; subst w; simp only [Int64.lt_iff_toInt_lt] at q; omega
  · split
    · rename_i r; exact ⟨fun _ => r, fun _ => rfl⟩
    · rename_i r; constructor
      · intro w; exact absurd w (by decide)
      · intro w; exact absurd w r
end OwnKit
end Jvm.RoadKit
namespace Jvm.RoadKit
open Sem ClassFile Op Lib Jvm.Stand Jvm.Free Jvm.LawKit
section OwnHeap
variable {p : Program} {l : Launch} {e : Env} {R : Room} {s : State} {m : MethodId} {args : Array Value} {below : List Frame} {meth : Method} {c : Code} {T T' : State} {locs locs' : List Loc} {k n k' n' : Nat} {Z : State} {a0 : Array Value} {h h' h0 : Heap} {g : JFrame} {a b : Addr} {ws ws' : List Addr} {n0 : Nat}
theorem keep_ext (E : Ext h h') : Keep h h' [] := (Keep.refl h []).ext E
theorem nin1 {x y : Addr} (q : x ≠ y) : x ∉ [y] := ninS q nin0
/-- an array: its length and what each place holds -/
def Ary (Z : State) (h : Heap) (a : Addr) (ty : FieldType) (n : Nat) (f : Nat → Value) : Prop := ∃ c : Cell, Arr Z h a c ty ∧ c.slots.size = n ∧ n < 2 ^ 31 ∧ ∀ i, i < n → c.slots[i]? = some (f i)
def upd {α : Type} (f : Nat → α) (j : Nat) (v : α) : Nat → α := fun i => if i = j then v else f i
theorem upd_same {α : Type} (f : Nat → α) (j : Nat) (v : α) : upd f j v j = v := if_pos rfl
theorem upd_ne {α : Type} (f : Nat → α) {i j : Nat} (v : α) (q : i ≠ j) : upd f j v i = f i := if_neg q
def InB (j : Int32) (n : Nat) : Prop := ¬ j < 0 ∧ j.toNatClampNeg < n
instance (j : Int32) (n : Nat) : Decidable (InB j n) := inferInstanceAs (Decidable (¬ j < 0 ∧ j.toNatClampNeg < n))
variable {ty : FieldType} {len : Nat} {f : Nat → Value}
theorem Ary.lt (F : Ary Z h a ty len f) : a < h.size := by obtain ⟨c, A, -⟩ := F; exact A.lt
theorem Ary.keep (F : Ary Z h a ty len f) (K : Keep h h' ws) (q : a ∉ ws) : Ary Z h' a ty len f := by
  obtain ⟨c, A, r⟩ := F; exact ⟨c, ⟨K.2.1 a c A.1 q, A.2⟩, r⟩
theorem Ary.small (F : Ary Z h a ty len f) : len < 2 ^ 31 := by obtain ⟨c, A, r1, r2, -⟩ := F; exact r2
theorem Ary.congr {f' : Nat → Value} (F : Ary Z h a ty len f) (q : ∀ i, i < len → f i = f' i) : Ary Z h a ty len f' := by
  obtain ⟨c, A, r1, r2, r3⟩ := F; exact ⟨c, A, r1, r2, fun i hi => by rw [← q i hi]; exact r3 i hi⟩
theorem Ary.wr {v : Value} {j : Nat} (F : Ary Z h a ty len f) (W : Wr h h' a j v) (hj : j < len) : Ary Z h' a ty len (upd f j v) := by
  obtain ⟨c, A, r1, r2, r3⟩ := F
  refine ⟨_, A.same W, by rw [sz_set]; exact r1, r2, fun i hi => ?_⟩
  by_cases q : i = j
  · subst q; rw [upd_same]; simp [Cell.setSlot, r1, hi]
  · rw [upd_ne _ _ q]; simp only [Cell.setSlot]; rw [Array.getElem?_setIfInBounds_ne (Ne.symm q)]; exact r3 i hi
theorem not_in {j : Int32} {n : Nat} (q : InB j n) {c : Cell} (r : c.slots.size = n) : ¬ (j < 0 ∨ c.slots.size ≤ j.toNatClampNeg) := by
  rw [r]; obtain ⟨q1, q2⟩ := q; intro z; rcases z with z | z
  · exact q1 z
  · omega
theorem own_len (X : Stand p l e R s m args below meth c T locs k n) (hx : p.tables.exec = Jvm.exec) (hZ : Z.Warmed39 s.vm) (eT : T.heap = h) (A : Ary Z h a ty len f) {rest : List Value} (hg : g.method = m) (hs : g.stack = .ref a :: rest) (hd : decode c.code g.pc = .ok (.arraylength, 1)) (t : State)
    (hr : Steps p.tables e below (T.setTop { g with pc := g.pc + 1, stack := .int len.toInt32 :: rest }) t) : Steps p.tables e below (T.setTop g) t := by
  obtain ⟨cl, A1, r1, r2, r3⟩ := A
  refine X.arraylength hx (by rw [eT]; exact A1.1) (State.isArrayOf_alike hZ.alike A1.2.1) hg hs hd t ?_
  rw [r1]; exact hr
theorem own_ldI (X : Stand p l e R s m args below meth c T locs k n) (hx : p.tables.exec = Jvm.exec) (hZ : Z.Warmed39 s.vm) (eT : T.heap = h) (A : Ary Z h a .int len f) {j : Int32} (hj : InB j len) {v : Value} (hv : f j.toNatClampNeg = v) {rest : List Value} (hg : g.method = m) (hs : g.stack = .int j :: .ref a :: rest) (hd : decode c.code g.pc = .ok (.iaload, 1)) (t : State)
    (hr : Steps p.tables e below (T.setTop { g with pc := g.pc + 1, stack := v :: rest }) t) : Steps p.tables e below (T.setTop g) t := by
  obtain ⟨cl, A1, r1, r2, r3⟩ := A
  exact X.iaload hx (by rw [eT]; exact A1.1) (State.isArrayOf_alike hZ.alike A1.2.1) A1.2.2 (not_in hj r1) (by rw [r3 _ hj.2, hv]) hg hs hd t hr
theorem own_ldJ (X : Stand p l e R s m args below meth c T locs k n) (hx : p.tables.exec = Jvm.exec) (hZ : Z.Warmed39 s.vm) (eT : T.heap = h) (A : Ary Z h a .long len f) {j : Int32} (hj : InB j len) {v : Value} (hv : f j.toNatClampNeg = v) {rest : List Value} (hg : g.method = m) (hs : g.stack = .int j :: .ref a :: rest) (hd : decode c.code g.pc = .ok (.laload, 1)) (t : State)
    (hr : Steps p.tables e below (T.setTop { g with pc := g.pc + 1, stack := v :: rest }) t) : Steps p.tables e below (T.setTop g) t := by
  obtain ⟨cl, A1, r1, r2, r3⟩ := A
  exact X.laload hx (by rw [eT]; exact A1.1) (State.isArrayOf_alike hZ.alike A1.2.1) A1.2.2 (not_in hj r1) (by rw [r3 _ hj.2, hv]) hg hs hd t hr
theorem own_ldC (X : Stand p l e R s m args below meth c T locs k n) (hx : p.tables.exec = Jvm.exec) (hZ : Z.Warmed39 s.vm) (eT : T.heap = h) (A : Ary Z h a .char len f) {j : Int32} (hj : InB j len) {v : Value} (hv : f j.toNatClampNeg = v) {rest : List Value} (hg : g.method = m) (hs : g.stack = .int j :: .ref a :: rest) (hd : decode c.code g.pc = .ok (.caload, 1)) (t : State)
    (hr : Steps p.tables e below (T.setTop { g with pc := g.pc + 1, stack := v :: rest }) t) : Steps p.tables e below (T.setTop g) t := by
  obtain ⟨cl, A1, r1, r2, r3⟩ := A
  exact X.caload hx (by rw [eT]; exact A1.1) (State.isArrayOf_alike hZ.alike A1.2.1) A1.2.2 (not_in hj r1) (by rw [r3 _ hj.2, hv]) hg hs hd t hr
theorem own_ldB (X : Stand p l e R s m args below meth c T locs k n) (hx : p.tables.exec = Jvm.exec) (hZ : Z.Warmed39 s.vm) (eT : T.heap = h) (A : Ary Z h a .byte len f) {j : Int32} (hj : InB j len) {v : Value} (hv : f j.toNatClampNeg = v) {rest : List Value} (hg : g.method = m) (hs : g.stack = .int j :: .ref a :: rest) (hd : decode c.code g.pc = .ok (.baload, 1)) (t : State)
    (hr : Steps p.tables e below (T.setTop { g with pc := g.pc + 1, stack := v :: rest }) t) : Steps p.tables e below (T.setTop g) t := by
  obtain ⟨cl, A1, r1, r2, r3⟩ := A
  exact X.baloadBytes hx (by rw [eT]; exact A1.1) (State.isArrayOf_alike hZ.alike A1.2.1) A1.2.2 (not_in hj r1) (by rw [r3 _ hj.2, hv]) hg hs hd t hr
theorem own_ldA (X : Stand p l e R s m args below meth c T locs k n) (hx : p.tables.exec = Jvm.exec) (hZ : Z.Warmed39 s.vm) (eT : T.heap = h) (A : Ary Z h a ty len f) (hty : ty.isReference = true) {j : Int32} (hj : InB j len) {v : Value} (hv : f j.toNatClampNeg = v) {rest : List Value} (hg : g.method = m) (hs : g.stack = .int j :: .ref a :: rest) (hd : decode c.code g.pc = .ok (.aaload, 1)) (t : State)
    (hr : Steps p.tables e below (T.setTop { g with pc := g.pc + 1, stack := v :: rest }) t) : Steps p.tables e below (T.setTop g) t := by
  obtain ⟨cl, A1, r1, r2, r3⟩ := A
  exact X.aaload hx (by rw [eT]; exact A1.1) (State.isArrayOf_alike hZ.alike A1.2.1) hty A1.2.2 (not_in hj r1) (by rw [r3 _ hj.2, hv]) hg hs hd t hr
theorem own_stI (X : Stand p l e R s m args below meth c T locs k n) (hx : p.tables.exec = Jvm.exec) (hZ : Z.Warmed39 s.vm) (eT : T.heap = h) (N : Fr n0 locs) {G : Nat → Int32} (A : Ary Z h a .int len (fun i => .int (G i))) (ga : n0 ≤ a) {j x : Int32} (hj : InB j len) {rest : List Value} (hg : g.method = m) (hs : g.stack = .int x :: .int j :: .ref a :: rest) (hd : decode c.code g.pc = .ok (.iastore, 1)) :
    ∃ (T' : State) (h' : Heap) (locs' : List Loc), Stand p l e R s m args below meth c T' locs' k n ∧ T'.heap = h' ∧ Fr n0 locs' ∧ Keep h h' [a] ∧ Ary Z h' a .int len (fun i => .int (upd G j.toNatClampNeg x i)) ∧ ∀ t, Steps p.tables e below (T'.setTop { g with pc := g.pc + 1, stack := rest }) t → Steps p.tables e below (T.setTop g) t := by
  obtain ⟨cl, A1, r⟩ := A
  obtain ⟨T', h', X', e', W, st⟩ := stI X hx hZ eT A1 (not_in hj r.1) hg hs hd
  exact ⟨T', h', _, X', e', Fr.snoc X' N ga, Keep.of_wr W, (Ary.wr ⟨cl, A1, r⟩ W hj.2).congr (fun i _ => by unfold upd; split <;> rfl), st⟩
theorem own_stJ (X : Stand p l e R s m args below meth c T locs k n) (hx : p.tables.exec = Jvm.exec) (hZ : Z.Warmed39 s.vm) (eT : T.heap = h) (N : Fr n0 locs) {G : Nat → Int64} (A : Ary Z h a .long len (fun i => .long (G i))) (ga : n0 ≤ a) {j : Int32} {x : Int64} (hj : InB j len) {rest : List Value} (hg : g.method = m) (hs : g.stack = .long x :: .int j :: .ref a :: rest) (hd : decode c.code g.pc = .ok (.lastore, 1)) :
    ∃ (T' : State) (h' : Heap) (locs' : List Loc), Stand p l e R s m args below meth c T' locs' k n ∧ T'.heap = h' ∧ Fr n0 locs' ∧ Keep h h' [a] ∧ Ary Z h' a .long len (fun i => .long (upd G j.toNatClampNeg x i)) ∧ ∀ t, Steps p.tables e below (T'.setTop { g with pc := g.pc + 1, stack := rest }) t → Steps p.tables e below (T.setTop g) t := by
  obtain ⟨cl, A1, r⟩ := A
  obtain ⟨T', h', X', e', W, st⟩ := stJ X hx hZ eT A1 (not_in hj r.1) hg hs hd
  exact ⟨T', h', _, X', e', Fr.snoc X' N ga, Keep.of_wr W, (Ary.wr ⟨cl, A1, r⟩ W hj.2).congr (fun i _ => by unfold upd; split <;> rfl), st⟩
theorem own_stC (X : Stand p l e R s m args below meth c T locs k n) (hx : p.tables.exec = Jvm.exec) (hZ : Z.Warmed39 s.vm) (eT : T.heap = h) (N : Fr n0 locs) {G : Nat → Int32} (A : Ary Z h a .char len (fun i => .int (G i))) (ga : n0 ≤ a) {j x : Int32} (hj : InB j len) {rest : List Value} (hg : g.method = m) (hs : g.stack = .int x :: .int j :: .ref a :: rest) (hd : decode c.code g.pc = .ok (.castore, 1)) :
    ∃ (T' : State) (h' : Heap) (locs' : List Loc), Stand p l e R s m args below meth c T' locs' k n ∧ T'.heap = h' ∧ Fr n0 locs' ∧ Keep h h' [a] ∧ Ary Z h' a .char len (fun i => .int (upd G j.toNatClampNeg (nar .char x) i)) ∧ ∀ t, Steps p.tables e below (T'.setTop { g with pc := g.pc + 1, stack := rest }) t → Steps p.tables e below (T.setTop g) t := by
  obtain ⟨cl, A1, r⟩ := A
  obtain ⟨T', h', X', e', W, st⟩ := stC X hx hZ eT A1 (not_in hj r.1) hg hs hd
  exact ⟨T', h', _, X', e', Fr.snoc X' N ga, Keep.of_wr W, (Ary.wr ⟨cl, A1, r⟩ W hj.2).congr (fun i _ => by unfold upd; split <;> rfl), st⟩
theorem own_stB (X : Stand p l e R s m args below meth c T locs k n) (hx : p.tables.exec = Jvm.exec) (hZ : Z.Warmed39 s.vm) (eT : T.heap = h) (N : Fr n0 locs) {G : Nat → Int32} (A : Ary Z h a .byte len (fun i => .int (G i))) (ga : n0 ≤ a) {j x : Int32} (hj : InB j len) {rest : List Value} (hg : g.method = m) (hs : g.stack = .int x :: .int j :: .ref a :: rest) (hd : decode c.code g.pc = .ok (.bastore, 1)) :
    ∃ (T' : State) (h' : Heap) (locs' : List Loc), Stand p l e R s m args below meth c T' locs' k n ∧ T'.heap = h' ∧ Fr n0 locs' ∧ Keep h h' [a] ∧ Ary Z h' a .byte len (fun i => .int (upd G j.toNatClampNeg (nar .byte x) i)) ∧ ∀ t, Steps p.tables e below (T'.setTop { g with pc := g.pc + 1, stack := rest }) t → Steps p.tables e below (T.setTop g) t := by
  obtain ⟨cl, A1, r⟩ := A
  obtain ⟨T', h', X', e', W, st⟩ := stB X hx hZ eT A1 (not_in hj r.1) hg hs hd
  exact ⟨T', h', _, X', e', Fr.snoc X' N ga, Keep.of_wr W, (Ary.wr ⟨cl, A1, r⟩ W hj.2).congr (fun i _ => by unfold upd; split <;> rfl), st⟩
/-- newarray of a length that is not negative and at most cap -/
theorem own_new (X : Stand p l e R s m args below meth c T locs k n) (hx : p.tables.exec = Jvm.exec) (hZ : Z.Warmed39 s.vm) {aty : ArrayType} (w : (Jvm.Cond.arrayClass (newarray.typeOf aty)).before a0 Z = true) (eT : T.heap = h) (hg : g.method = m) (hd : decode c.code g.pc = .ok (.newarray aty, 2)) {z : Int32} {rest : List Value} (hs : g.stack = .int z :: rest)
    (hn : ¬ z < 0) {cap : Nat} (hcap : z.toNatClampNeg ≤ cap) (hb : cap * 8 ≤ 536870912) (hc : k + 1 ≤ R.cells) (hl : n + cap ≤ R.slots) :
    ∃ (T' : State) (h' : Heap) (a : Addr), Stand p l e R s m args below meth c T' locs (k + 1) (n + cap) ∧ T'.heap = h' ∧ a = h.size ∧ Keep h h' [] ∧ Ary Z h' a (newarray.typeOf aty) z.toNatClampNeg (fun _ => defaultValue (newarray.typeOf aty)) ∧
      ∀ t, Steps p.tables e below (T'.setTop { g with pc := g.pc + 2, stack := .ref a :: rest }) t → Steps p.tables e below (T.setTop g) t := by
  obtain ⟨T', h', cA, X', e', E, A, st⟩ := newP X hx hZ w eT hg hd hs hn hcap hb hc hl
  refine ⟨T', h', _, X', e', rfl, keep_ext E, ⟨_, A, sz_new _ _ _, ?_, fun i hi => ?_⟩, st⟩
  · exact (back32 hn).2
  · simp [newA, hi]
/-- an object's field written: the heap, what is kept, the field -/
theorem own_putF (X : Stand p l e R s m args below meth c T locs k n) (hx : p.tables.exec = Jvm.exec) (hZ : Z.Warmed39 s.vm) {own O nm d C : String} {index kk : Nat} {fty : FieldType} (hown : s.vm.findClass own = some m.cls) (w : (Jvm.Cond.fieldLink own index O nm d).before a0 Z = true)
    (eT : T.heap = h) (N : Fr n0 locs) {u v : Value} (F : Fld Z h a O nm d u) (E : Exa Z h a C) (ga : n0 ≤ a) (lw : (Jvm.Cond.lays C O nm d).before a0 Z = true ∨ ((Jvm.Cond.laysFinal C O nm d).before a0 Z = true ∧ own = O ∧ meth.name = "<init>")) (wi : (Jvm.Cond.instantiable C kk).before a0 Z = true)
    (hty : parseFieldDescriptor d = some fty) (hn : narrow fty v = v) (hf : fits fty v = true) {rest : List Value} (hg : g.method = m) (hs : g.stack = v :: .ref a :: rest) (hd : decode c.code g.pc = .ok (.putfield index, 3)) :
    ∃ (T' : State) (h' : Heap) (locs' : List Loc), Stand p l e R s m args below meth c T' locs' k n ∧ T'.heap = h' ∧ Fr n0 locs' ∧ Wr h h' a (slotOf Z O nm d) v ∧ Fld Z h' a O nm d v ∧ ∀ t, Steps p.tables e below (T'.setTop { g with pc := g.pc + 3, stack := rest }) t → Steps p.tables e below (T.setTop g) t := by
  obtain ⟨T', h', X', e', W, st⟩ := putF X hx hZ hown (host := "") (Or.inl w) Via.refl eT F E lw wi (ty := fty) hty hn hf hg hs hd
  exact ⟨T', h', _, X', e', Fr.snoc X' N ga, W, F.same W, st⟩
theorem Exa.neS {C : String} (F : Exa Z h a C) (q : b = h.size) : a ≠ b := by
  have r := Exa.lt F; intro z; rw [z, q] at r; exact Nat.lt_irrefl _ r
theorem Ary.neS (F : Ary Z h a ty len f) (q : b = h.size) : a ≠ b := by
  have r := Ary.lt F; intro z; rw [z, q] at r; exact Nat.lt_irrefl _ r
end OwnHeap
end Jvm.RoadKit
namespace Jvm.RoadKit
open Sem ClassFile Op Lib Jvm.Stand Jvm.Free Jvm.LawKit
section OwnNum
theorem i32lt (x y : Int32) : x < y ↔ x.toInt < y.toInt := Int32.lt_iff_toInt_lt
theorem i32eq (x y : Int32) : x = y ↔ x.toInt = y.toInt := Int32.toInt_inj.symm
theorem i64lt (x y : Int64) : x < y ↔ x.toInt < y.toInt := Int64.lt_iff_toInt_lt
theorem i64eq (x y : Int64) : x = y ↔ x.toInt = y.toInt := Int64.toInt_inj.symm
theorem nar0 : nar .boolean 0 = 0 := by decide
theorem nar1 : nar .boolean 1 = 1 := by decide
theorem narI (P : Prop) [Decidable P] : nar .boolean (if P then 1 else 0) = if P then 1 else 0 := by split <;> decide
theorem ushr_pos {x y : Int32} (hx : 0 ≤ x.toInt) {k : Nat} (hn : (y &&& 31).toUInt32.toNat = k) (hk : k < 32) : (XT.ushr x y).toInt = x.toInt / 2 ^ k :=
  Jvm.Kit.i32_iushr (Jvm.Kit.i32_nonneg.mpr hx) hn hk
theorem ushr_nat (x y : Int32) {k : Nat} (hn : (y &&& 31).toUInt32.toNat = k) (h1 : 0 < k) (hk : k < 32) : (XT.ushr x y).toInt = (x.toBitVec.toNat / 2 ^ k : Nat) := by
  have e1 : (XT.ushr x y).toBitVec.toNat = x.toBitVec.toNat / 2 ^ k := by
    show (x.toUInt32 >>> (y &&& 31).toUInt32).toNat = _
    rw [UInt32.toNat_shiftRight, hn, Nat.mod_eq_of_lt hk, Nat.shiftRight_eq_div_pow]
    rfl
  have e2 := x.toBitVec.isLt
  have e3 : x.toBitVec.toNat / 2 ^ k < 2 ^ 31 := by
    apply Nat.div_lt_of_lt_mul
    calc x.toBitVec.toNat < 2 ^ 32 := e2
      _ ≤ 2 ^ k * 2 ^ 31 := by rw [← Nat.pow_add]; exact Nat.pow_le_pow_right (by omega) (by omega)
  show (XT.ushr x y).toBitVec.toInt = _
  rw [BitVec.toInt_eq_toNat_of_lt (by rw [e1]; omega), e1]
theorem inb_of_toInt {j : Int32} {n : Nat} (h1 : 0 ≤ j.toInt) (h2 : j.toInt < n) : InB j n := by
  refine ⟨?_, ?_⟩
  · rw [i32lt]; show ¬ j.toInt < 0; omega
  · simp only [Int32.toNatClampNeg]; omega
theorem or32_nat (n : Nat) : n ||| 32 = n + (if n % 64 < 32 then 32 else 0) := by
  have h1 : (n ||| 32) % 2 ^ 6 = (n % 2 ^ 6) ||| (32 % 2 ^ 6) := Nat.or_mod_two_pow
  have h2 : (n ||| 32) / 2 ^ 6 = n / 2 ^ 6 := by
    rw [← Nat.shiftRight_eq_div_pow, Nat.shiftRight_or_distrib, ← Nat.shiftRight_eq_div_pow]
    simp
  have h3 : ∀ r : Fin 64, r.val ||| 32 = if r.val < 32 then r.val + 32 else r.val := by decide
  have h4 := h3 ⟨n % 64, Nat.mod_lt _ (by omega)⟩
  simp only at h4
  have h5 : (n % 2 ^ 6) ||| (32 % 2 ^ 6) = (n % 64) ||| 32 := rfl
  rw [h5, h4] at h1
  split at h1 <;> split <;> omega
theorem or32 (c : Int32) : (c ||| 32).toInt = c.toInt + (if c.toInt % 64 < 32 then 32 else 0) := by
  have e1 : (c ||| 32).toBitVec.toNat = c.toBitVec.toNat ||| 32 := by simp [BitVec.toNat_or]
  have e2 : c.toInt = c.toBitVec.toInt := rfl
  have e3 : (c ||| 32).toInt = (c ||| 32).toBitVec.toInt := rfl
  have e4 := c.toBitVec.isLt
  have e5 := (c ||| 32).toBitVec.isLt
  rw [e2, e3, BitVec.toInt_eq_toNat_cond, BitVec.toInt_eq_toNat_cond, e1, or32_nat]
  rw [e1, or32_nat] at e5
  split at e5 <;> split <;> split <;> split <;> omega
theorem i2c_toInt (x : Int32) : (x.toUInt32.toUInt16.toUInt32.toInt32).toInt = x.toInt % 65536 := by
  have e1 : (x.toUInt32.toUInt16.toUInt32.toInt32).toBitVec.toNat = x.toBitVec.toNat % 65536 := by
    show (x.toUInt32.toUInt16.toUInt32).toNat = _
    simp
    rfl
  have e2 := x.toBitVec.isLt
  have e3 : x.toInt = x.toBitVec.toInt := rfl
  have e4 : (x.toUInt32.toUInt16.toUInt32.toInt32).toInt = (x.toUInt32.toUInt16.toUInt32.toInt32).toBitVec.toInt := rfl
  rw [e3, e4, BitVec.toInt_eq_toNat_cond, BitVec.toInt_eq_toNat_cond, e1]
  split <;> split <;> omega
theorem mulbd {a b : Int} (h1 : 0 ≤ a) (h2 : a ≤ 2147483648) (h3 : 0 ≤ b) (h4 : b ≤ 2147483648) : 0 ≤ a * b ∧ a * b ≤ 4611686018427387904 := by
  refine ⟨Int.mul_nonneg h1 h3, ?_⟩
  have h : a * b ≤ 2147483648 * 2147483648 := Int.mul_le_mul h2 h4 h3 (by omega)
  omega
theorem mul64g {x y : Int64} (h1 : 0 ≤ x.toInt) (h2 : x.toInt ≤ 2147483648) (h3 : 0 ≤ y.toInt) (h4 : y.toInt ≤ 2147483648) : (x * y).toInt = x.toInt * y.toInt := by
  obtain ⟨b1, b2⟩ := mulbd h1 h2 h3 h4
  exact Jvm.Kit.i64_mul (by omega) (by omega)
theorem mul64 {x y : Int32} (h1 : 0 ≤ x.toInt) (h3 : 0 ≤ y.toInt) : (x.toInt64 * y.toInt64).toInt = x.toInt * y.toInt := by
  have e1 := Jvm.Kit.i64_of_i32 x
  have e2 := Jvm.Kit.i64_of_i32 y
  have b1 := Int32.toInt_lt x
  have b2 := Int32.toInt_lt y
  rw [mul64g (by omega) (by omega) (by omega) (by omega), e1, e2]
/-- the quotient q of a by b: b * q ≤ a < b * q + b -/
theorem quot {a b : Int} (hb : 0 < b) : b * (a / b) ≤ a ∧ a < b * (a / b) + b := by
  have h1 := Int.emod_def a b
  have h2 := Int.emod_nonneg a (show b ≠ 0 by omega)
  have h3 := Int.emod_lt_of_pos a hb
  omega
theorem div64 {x y : Int64} (h1 : 0 ≤ x.toInt) (h2 : 0 < y.toInt) : (x / y).toInt = x.toInt / y.toInt := by
  rw [Jvm.Kit.i64_div (by omega), Int.tdiv_eq_ediv_of_nonneg h1]
theorem mask31 (x : Int32) : (x &&& 2147483647).toInt = x.toInt % 2147483648 := by
  have := Jvm.Kit.i32_mask x 2147483647 (k := 31) (by decide) (by decide)
  omega
theorem rem32 {x y : Int32} (h : 0 ≤ x.toInt) (h2 : 0 < y.toInt) : 0 ≤ (x % y).toInt ∧ (x % y).toInt < y.toInt := by
  rw [Jvm.Kit.i32_rem_nonneg h]
  exact ⟨Int.emod_nonneg _ (by omega), Int.emod_lt_of_pos _ h2⟩
end OwnNum
end Jvm.RoadKit
namespace Jvm.Pilot.@@N@@
open Jvm Jvm.ClassFile Sem Op Lib Jvm.Free Jvm.Stand Jvm.LawKit Jvm.RoadKit Bundle Jvm.Pilot.@@N@@.Jvm.D
/-! body 2: java/lang/Record.<init>:()V -/
theorem d2_0 : decode jdk_30_method_1_code 0 = .ok (.aload_n 0, 1) := by decide +kernel
theorem d2_1 : decode jdk_30_method_1_code 1 = .ok (.invokespecial 1, 3) := by decide +kernel
theorem d2_4 : decode jdk_30_method_1_code 4 = .ok (.return_, 1) := by decide +kernel
theorem pn_2 : plainName "java/lang/Record" = true := by first | (simp [plainName, overriddenIn]; done) | decide +kernel
theorem ef_2 (m : MethodId) (o0 : Addr) : entryFrame m #[(.ref o0)] 1 = mkF m 0 #[.val (.ref o0)] [] := by first | (simp [entryFrame, mkF, argsToLocals, Value.category]; done) | rfl
set_option maxRecDepth 65536 in
set_option maxHeartbeats 40000000 in
theorem j2_0 {p : Program} {l : Launch} {e : Env} {s : State} {m : MethodId} {args : Array Value} {below : List Frame} {meth : Method} {c : Code} {T0 : State} {locs : List Loc} {Z : State} {a0 : Array Value} {h0 : Heap} {n0 : Nat}
    (X0 : Stand p l e ({ frames := 1, cells := 0, slots := 0, locals := 12 } : Room) s m args below meth c T0 locs 0 0) (hx : p.tables.exec = Jvm.exec) (hZ : Z.Warmed39 s.vm) (hw : ∀ d ∈ tables_1, d.before a0 Z = true) (hby : c.code = jdk_30_method_1_code) (hml : c.maxLocals = 1) (hown : s.vm.findClass "java/lang/Record" = some m.cls) (e0 : T0.heap = h0) (N0 : Fr n0 locs) (Z0 : n0 ≤ h0.size) (o0 : Addr) :
    OwnFin X0 none (PQ none h0 n0) 0 0 (mkF m 0 #[.val (.ref o0)] []) := by
  refine OwnFin.step (g' := (mkF m 1 #[.val (.ref o0)] [(.ref o0)])) X0 (fun t k => XS.aloadN X0.here hx rfl (hb hby d2_0) rfl rfl k) ?_
  obtain ⟨T1, X1, e1, st1⟩ := initO X0 hx hZ hown (hw _ (List.mem_of_getElem? (i := 11) rfl)) (hw _ (List.mem_of_getElem? (i := 12) rfl)) (hw _ (List.mem_of_getElem? (i := 13) rfl)) e0 (g := (mkF m 1 #[.val (.ref o0)] [(.ref o0)])) rfl (by rw [hml]; rfl) rfl (hb hby d2_1) (by decide) (W := 0) (by show 2 * 0 + _ ≤ _; exact Nat.le_of_eq rfl) (by decide)
  refine OwnFin.step (g' := (mkF m 4 #[.val (.ref o0)] [])) X1 (fun t k => st1 _ k) ?_
  exact OwnFin.retVoid X1 (hb hby d2_4) (Nat.le_refl _) (Nat.le_refl _) ⟨rfl, e1, N0⟩
set_option maxRecDepth 65536 in
set_option maxHeartbeats 40000000 in
theorem rm2 (l : Launch) (Z : State) (a0 : Array Value) (hw : ∀ d ∈ tables_1, d.before a0 Z = true) (ws : List Jvm.Cond) (o0 : Addr) (h0 : Heap) (n0 : Nat) (Z0 : n0 ≤ h0.size) :
    MetFree l (⟨"java/lang/Record", "<init>", "()V"⟩ : MethodName) (head1 (Jvm.Cond.code (⟨"java/lang/Record", "<init>", "()V"⟩ : MethodName) jdk_30_method_1_code 1 none :: ws) ({ frames := 1, cells := 0, slots := 0, locals := 12 } : Room)) (fun a U => a = #[(.ref o0)] ∧ Z.Warmed39 U.vm ∧ U.heap = h0) (fun _ _ _ _ _ => True) (fun _ U o U' => ∃ v L, o = .returned v ∧ PQ none h0 n0 v U'.heap L ∧ FrameEnd U o U' L ({ frames := 1, cells := 0, slots := 0, locals := 12 } : Room).cells ({ frames := 1, cells := 0, slots := 0, locals := 12 } : Room).slots) :=
  own_met (ret := none) (plainFor_of_name pn_2) (fun m => ef_2 m o0) (fun p e s m below meth c s₁ X hx hby hml hown hnm hZ e0 => OwnFin.wide (j2_0 X hx hZ hw hby hml hown e0 (Fr.nil n0) Z0 o0) (Nat.zero_le _) (Nat.zero_le _))
theorem d1_0 : decode prog_65_method_1_code 0 = .ok (.aload_n 0, 1) := by decide +kernel
theorem d1_1 : decode prog_65_method_1_code 1 = .ok (.invokespecial 3, 3) := by decide +kernel
theorem d1_4 : decode prog_65_method_1_code 4 = .ok (.aload_n 0, 1) := by decide +kernel
theorem d1_5 : decode prog_65_method_1_code 5 = .ok (.lload_n 1, 1) := by decide +kernel
theorem d1_6 : decode prog_65_method_1_code 6 = .ok (.putfield 9, 3) := by decide +kernel
theorem d1_9 : decode prog_65_method_1_code 9 = .ok (.aload_n 0, 1) := by decide +kernel
theorem d1_10 : decode prog_65_method_1_code 10 = .ok (.lload_n 3, 1) := by decide +kernel
theorem d1_11 : decode prog_65_method_1_code 11 = .ok (.putfield 15, 3) := by decide +kernel
theorem d1_14 : decode prog_65_method_1_code 14 = .ok (.return_, 1) := by decide +kernel
theorem pn_1 : plainName "com/example/slotd/slotd/calendar/Length" = true := by first | (simp [plainName, overriddenIn]; done) | decide +kernel
theorem ef_1 (m : MethodId) (o0 : Addr) (q1 : Int64) (q2 : Int64) : entryFrame m #[(.ref o0), (.long q1), (.long q2)] 5 = mkF m 0 #[.val (.ref o0), .val (.long q1), .second, .val (.long q2), .second] [] := by first | (simp [entryFrame, mkF, argsToLocals, Value.category]; done) | rfl
theorem pd_0 : parseMethodDescriptor "()V" = some ⟨[], none⟩ := by decide +kernel
def Q1 (Z : State) (o0 : Addr) (q1 : Int64) (q2 : Int64) (h0 : Heap) (n0 : Nat) : Option Value → Heap → List Loc → Prop := fun v h L => v = none ∧ Fr n0 L ∧ Keep h0 h [o0] ∧ Exa Z h o0 "com/example/slotd/slotd/calendar/Length" ∧ Fld Z h o0 "com/example/slotd/slotd/calendar/Length" "days" "J" (.long q1) ∧ Fld Z h o0 "com/example/slotd/slotd/calendar/Length" "seconds" "J" (.long q2)
set_option maxRecDepth 65536 in
set_option maxHeartbeats 40000000 in
theorem j1 {p : Program} {l : Launch} {e : Env} {s : State} {m : MethodId} {args : Array Value} {below : List Frame} {meth : Method} {c : Code} {T0 : State} {locs : List Loc} {Z : State} {a0 : Array Value} {h0 : Heap} {n0 : Nat}
    (X0 : Stand p l e ({ frames := 2, cells := 0, slots := 0, locals := 24 } : Room) s m args below meth c T0 locs 0 0) (hx : p.tables.exec = Jvm.exec) (hZ : Z.Warmed39 s.vm) (hw : ∀ d ∈ tables_1, d.before a0 Z = true) (hby : c.code = prog_65_method_1_code) (hml : c.maxLocals = 5) (hown : s.vm.findClass "com/example/slotd/slotd/calendar/Length" = some m.cls) (hnm : meth.name = "<init>") (e0 : T0.heap = h0) (N0 : Fr n0 locs) (Z0 : n0 ≤ h0.size) (o0 : Addr) (q1 : Int64) (q2 : Int64) (E_o0 : Exa Z h0 o0 "com/example/slotd/slotd/calendar/Length") (g_o0 : n0 ≤ o0) (F_days_o0 : Fld Z h0 o0 "com/example/slotd/slotd/calendar/Length" "days" "J" (.long (0 : Int64))) (F_seconds_o0 : Fld Z h0 o0 "com/example/slotd/slotd/calendar/Length" "seconds" "J" (.long (0 : Int64))) :
    OwnFin X0 none (Q1 Z o0 q1 q2 h0 n0) ({ frames := 2, cells := 0, slots := 0, locals := 24 } : Room).cells ({ frames := 2, cells := 0, slots := 0, locals := 24 } : Room).slots (mkF m 0 #[.val (.ref o0), .val (.long q1), .second, .val (.long q2), .second] []) := by
  refine OwnFin.step (g' := (mkF m 1 #[.val (.ref o0), .val (.long q1), .second, .val (.long q2), .second] [(.ref o0)])) X0 (fun t k => XS.aloadN X0.here hx rfl (hb hby d1_0) rfl rfl k) ?_
  obtain ⟨_, T1, L1, X1, ⟨rfl, f1, N1q⟩, st1⟩ := own_callI X0 hx hZ (y := (⟨"java/lang/Record", "<init>", "()V"⟩ : MethodName)) (W := 0) (a := o0) (argsL := []) (rest := []) rfl hown (hw _ (List.mem_of_getElem? (i := 6) rfl)) (hw _ (List.mem_of_getElem? (i := 7) rfl)) (hw _ (List.mem_of_getElem? (i := 9) rfl)) (hw _ (List.mem_of_getElem? (i := 10) rfl)) (by decide) (rm2 l Z a0 hw [] o0 h0 n0 Z0) (by decide) (by decide) (by decide) (by decide) e0 (g := (mkF m 1 #[.val (.ref o0), .val (.long q1), .second, .val (.long q2), .second] [(.ref o0)])) rfl (by rw [hml]; rfl) pd_0 rfl rfl (by show 2 * 0 + _ ≤ _; exact Nat.le_of_eq rfl) (hb hby d1_1)
  have N1 := Fr.app N0 N1q
  refine OwnFin.step (g' := (mkF m 4 #[.val (.ref o0), .val (.long q1), .second, .val (.long q2), .second] [])) X1 (fun t k => st1 _ k) ?_
  refine OwnFin.step (g' := (mkF m 5 #[.val (.ref o0), .val (.long q1), .second, .val (.long q2), .second] [(.ref o0)])) X1 (fun t k => XS.aloadN X1.here hx rfl (hb hby d1_4) rfl rfl k) ?_
  refine OwnFin.step (g' := (mkF m 6 #[.val (.ref o0), .val (.long q1), .second, .val (.long q2), .second] [(.long q1), (.ref o0)])) X1 (fun t k => XT.lloadN X1.here hx rfl (hb hby d1_5) rfl k) ?_
  obtain ⟨T2, h2, L2, X2, e2, N2, W2, F2, st2⟩ := own_putF X1 hx hZ hown (hw _ (List.mem_of_getElem? (i := 14) rfl)) f1 N1 F_days_o0 E_o0 g_o0 (Or.inr ⟨(hw _ (List.mem_of_getElem? (i := 15) rfl)), rfl, hnm⟩) (hw _ (List.mem_of_getElem? (i := 1) rfl)) (fty := .long) (by decide) rfl rfl (g := (mkF m 6 #[.val (.ref o0), .val (.long q1), .second, .val (.long q2), .second] [(.long q1), (.ref o0)])) rfl rfl (hb hby d1_6)
  have K2 := Keep.of_wr W2
  have Z2 : n0 ≤ h2.size := Nat.le_trans Z0 K2.1
  have S2 : h0.size ≤ h2.size := Nat.le_trans (Nat.le_refl h0.size) K2.1
  have F3 := Fld.other W2 F_seconds_o0 (Or.inr (slot_ne (Or.inr (hw _ (List.mem_of_getElem? (i := 17) rfl))) (Or.inr (hw _ (List.mem_of_getElem? (i := 15) rfl))) (by decide) (t := .long) (t' := .long) (by decide) (by decide)))
  have E4 := Exa.wr W2 E_o0
  refine OwnFin.step (g' := (mkF m 9 #[.val (.ref o0), .val (.long q1), .second, .val (.long q2), .second] [])) X2 (fun t k => st2 _ k) ?_
  refine OwnFin.step (g' := (mkF m 10 #[.val (.ref o0), .val (.long q1), .second, .val (.long q2), .second] [(.ref o0)])) X2 (fun t k => XS.aloadN X2.here hx rfl (hb hby d1_9) rfl rfl k) ?_
  refine OwnFin.step (g' := (mkF m 11 #[.val (.ref o0), .val (.long q1), .second, .val (.long q2), .second] [(.long q2), (.ref o0)])) X2 (fun t k => XT.lloadN X2.here hx rfl (hb hby d1_10) rfl k) ?_
  obtain ⟨T5, h5, L5, X5, e5, N5, W5, F5, st5⟩ := own_putF X2 hx hZ hown (hw _ (List.mem_of_getElem? (i := 16) rfl)) e2 N2 F3 E4 g_o0 (Or.inr ⟨(hw _ (List.mem_of_getElem? (i := 17) rfl)), rfl, hnm⟩) (hw _ (List.mem_of_getElem? (i := 1) rfl)) (fty := .long) (by decide) rfl rfl (g := (mkF m 11 #[.val (.ref o0), .val (.long q1), .second, .val (.long q2), .second] [(.long q2), (.ref o0)])) rfl rfl (hb hby d1_11)
  have K5 := Keep.of_wr W5
  have Z5 : n0 ≤ h5.size := Nat.le_trans Z2 K5.1
  have S5 : h0.size ≤ h5.size := Nat.le_trans S2 K5.1
  have F6 := Fld.other W5 F2 (Or.inr (slot_ne (Or.inr (hw _ (List.mem_of_getElem? (i := 15) rfl))) (Or.inr (hw _ (List.mem_of_getElem? (i := 17) rfl))) (by decide) (t := .long) (t' := .long) (by decide) (by decide)))
  have E7 := Exa.wr W5 E4
  refine OwnFin.step (g' := (mkF m 14 #[.val (.ref o0), .val (.long q1), .second, .val (.long q2), .second] [])) X5 (fun t k => st5 _ k) ?_
  refine OwnFin.retVoid X5 (hb hby d1_14) (by decide) (by decide) ?_
  rw [e5]
  exact ⟨rfl, N5, (Keep.trans (Keep.trans (Keep.refl h0 [o0]) K2 (allS (Or.inl (List.mem_of_getElem? (i := 0) rfl)) all0)) K5 (allS (Or.inl (List.mem_of_getElem? (i := 0) rfl)) all0)), E7, F6, F5⟩
set_option maxRecDepth 65536 in
set_option maxHeartbeats 40000000 in
theorem rm1 (l : Launch) (Z : State) (a0 : Array Value) (hw : ∀ d ∈ tables_1, d.before a0 Z = true) (ws : List Jvm.Cond) (o0 : Addr) (q1 : Int64) (q2 : Int64) (h0 : Heap) (n0 : Nat) (Z0 : n0 ≤ h0.size) (E_o0 : Exa Z h0 o0 "com/example/slotd/slotd/calendar/Length") (g_o0 : n0 ≤ o0) (F_days_o0 : Fld Z h0 o0 "com/example/slotd/slotd/calendar/Length" "days" "J" (.long (0 : Int64))) (F_seconds_o0 : Fld Z h0 o0 "com/example/slotd/slotd/calendar/Length" "seconds" "J" (.long (0 : Int64))) :
    MetFree l (⟨"com/example/slotd/slotd/calendar/Length", "<init>", "(JJ)V"⟩ : MethodName) (head1 (Jvm.Cond.code (⟨"com/example/slotd/slotd/calendar/Length", "<init>", "(JJ)V"⟩ : MethodName) prog_65_method_1_code 5 none :: ws) ({ frames := 2, cells := 0, slots := 0, locals := 24 } : Room)) (fun a U => a = #[(.ref o0), (.long q1), (.long q2)] ∧ Z.Warmed39 U.vm ∧ U.heap = h0) (fun _ _ _ _ _ => True) (fun _ U o U' => ∃ v L, o = .returned v ∧ (Q1 Z o0 q1 q2 h0 n0) v U'.heap L ∧ FrameEnd U o U' L ({ frames := 2, cells := 0, slots := 0, locals := 24 } : Room).cells ({ frames := 2, cells := 0, slots := 0, locals := 24 } : Room).slots) :=
  own_met (ret := none) (Q := (Q1 Z o0 q1 q2 h0 n0)) (plainFor_of_name pn_1) (fun m => ef_1 m o0 q1 q2) (fun p e s m below meth c s₁ X hx hby hml hown hnm hZ e0 => j1 X hx hZ hw hby hml hown hnm e0 (Fr.nil n0) Z0 o0 q1 q2 E_o0 g_o0 F_days_o0 F_seconds_o0)
/-! body 4: com/example/slotd/slotd/calendar/Length.longestSeconds:()J -/
theorem d4_0 : decode prog_65_method_3_code 0 = .ok (.aload_n 0, 1) := by decide +kernel
theorem d4_1 : decode prog_65_method_3_code 1 = .ok (.getfield 9, 3) := by decide +kernel
theorem d4_4 : decode prog_65_method_3_code 4 = .ok (.ldc2_w 18, 3) := by decide +kernel
theorem d4_7 : decode prog_65_method_3_code 7 = .ok (.lmul, 1) := by decide +kernel
theorem d4_8 : decode prog_65_method_3_code 8 = .ok (.aload_n 0, 1) := by decide +kernel
theorem d4_9 : decode prog_65_method_3_code 9 = .ok (.getfield 15, 3) := by decide +kernel
theorem d4_12 : decode prog_65_method_3_code 12 = .ok (.ladd, 1) := by decide +kernel
theorem d4_13 : decode prog_65_method_3_code 13 = .ok (.lreturn, 1) := by decide +kernel
theorem pn_4 : plainName "com/example/slotd/slotd/calendar/Length" = true := by first | (simp [plainName, overriddenIn]; done) | decide +kernel
theorem ef_4 (m : MethodId) (o0 : Addr) : entryFrame m #[(.ref o0)] 1 = mkF m 0 #[.val (.ref o0)] [] := by first | (simp [entryFrame, mkF, argsToLocals, Value.category]; done) | rfl
def f4_0 (w_days : Int64) (w_seconds : Int64) : Int64 := ((w_days * (129600 : Int64)) + w_seconds)
set_option maxRecDepth 65536 in
set_option maxHeartbeats 40000000 in
theorem j4_0 {p : Program} {l : Launch} {e : Env} {s : State} {m : MethodId} {args : Array Value} {below : List Frame} {meth : Method} {c : Code} {T0 : State} {locs : List Loc} {Z : State} {a0 : Array Value} {h0 : Heap} {n0 : Nat}
    (X0 : Stand p l e ({ frames := 0, cells := 0, slots := 0, locals := 0 } : Room) s m args below meth c T0 locs 0 0) (hx : p.tables.exec = Jvm.exec) (hZ : Z.Warmed39 s.vm) (hw : ∀ d ∈ tables_1, d.before a0 Z = true) (hby : c.code = prog_65_method_3_code) (hml : c.maxLocals = 1) (hown : s.vm.findClass "com/example/slotd/slotd/calendar/Length" = some m.cls) (e0 : T0.heap = h0) (N0 : Fr n0 locs) (Z0 : n0 ≤ h0.size) (o0 : Addr) (w_days : Int64) (w_seconds : Int64) (F_days : Fld Z h0 o0 "com/example/slotd/slotd/calendar/Length" "days" "J" (.long w_days)) (F_seconds : Fld Z h0 o0 "com/example/slotd/slotd/calendar/Length" "seconds" "J" (.long w_seconds)) :
    OwnFin X0 (some .long) (PQ (some (.long (f4_0 w_days w_seconds))) h0 n0) 0 0 (mkF m 0 #[.val (.ref o0)] []) := by
  show OwnFin X0 (some .long) (PQ (some (.long ((w_days * (129600 : Int64)) + w_seconds))) h0 n0) 0 0 _
  refine OwnFin.step (g' := (mkF m 1 #[.val (.ref o0)] [(.ref o0)])) X0 (fun t k => XS.aloadN X0.here hx rfl (hb hby d4_0) rfl rfl k) ?_
  obtain ⟨T1, X1, e1, st1⟩ := getF X0 hx hZ hown (host := "") (Or.inl (hw _ (List.mem_of_getElem? (i := 14) rfl))) Via.refl e0 F_days (g := (mkF m 1 #[.val (.ref o0)] [(.ref o0)])) rfl rfl (hb hby d4_1)
  refine OwnFin.step (g' := (mkF m 4 #[.val (.ref o0)] [(.long w_days)])) X1 (fun t k => st1 _ k) ?_
  refine OwnFin.step (g' := (mkF m 7 #[.val (.ref o0)] [(.long (129600 : Int64)), (.long w_days)])) X1 (fun t k => X1.ldc2Long hx hown (mvT hZ (hw _ (List.mem_of_getElem? (i := 23) rfl))) (g := (mkF m 4 #[.val (.ref o0)] [(.long w_days)])) rfl (hb hby d4_4) _ k) ?_
  refine OwnFin.step (g' := (mkF m 8 #[.val (.ref o0)] [(.long (w_days * (129600 : Int64)))])) X1 (fun t k => XT.lmul X1.here hx rfl (hb hby d4_7) rfl k) ?_
  refine OwnFin.step (g' := (mkF m 9 #[.val (.ref o0)] [(.ref o0), (.long (w_days * (129600 : Int64)))])) X1 (fun t k => XS.aloadN X1.here hx rfl (hb hby d4_8) rfl rfl k) ?_
  obtain ⟨T2, X2, e2, st2⟩ := getF X1 hx hZ hown (host := "") (Or.inl (hw _ (List.mem_of_getElem? (i := 16) rfl))) Via.refl e1 F_seconds (g := (mkF m 9 #[.val (.ref o0)] [(.ref o0), (.long (w_days * (129600 : Int64)))])) rfl rfl (hb hby d4_9)
  refine OwnFin.step (g' := (mkF m 12 #[.val (.ref o0)] [(.long w_seconds), (.long (w_days * (129600 : Int64)))])) X2 (fun t k => st2 _ k) ?_
  refine OwnFin.step (g' := (mkF m 13 #[.val (.ref o0)] [(.long ((w_days * (129600 : Int64)) + w_seconds))])) X2 (fun t k => XT.ladd X2.here hx rfl (hb hby d4_12) rfl k) ?_
  exact OwnFin.retLong X2 (hb hby d4_13) (Nat.le_refl _) (Nat.le_refl _) ⟨rfl, e2, N0⟩
def r4 (w_days : Int64) (w_seconds : Int64) : Int64 := f4_0 w_days w_seconds
set_option maxRecDepth 65536 in
set_option maxHeartbeats 40000000 in
theorem rm4 (l : Launch) (Z : State) (a0 : Array Value) (hw : ∀ d ∈ tables_1, d.before a0 Z = true) (ws : List Jvm.Cond) (o0 : Addr) (w_days : Int64) (w_seconds : Int64) (h0 : Heap) (n0 : Nat) (Z0 : n0 ≤ h0.size) (F_days : Fld Z h0 o0 "com/example/slotd/slotd/calendar/Length" "days" "J" (.long w_days)) (F_seconds : Fld Z h0 o0 "com/example/slotd/slotd/calendar/Length" "seconds" "J" (.long w_seconds)) :
    MetFree l (⟨"com/example/slotd/slotd/calendar/Length", "longestSeconds", "()J"⟩ : MethodName) (head1 (Jvm.Cond.code (⟨"com/example/slotd/slotd/calendar/Length", "longestSeconds", "()J"⟩ : MethodName) prog_65_method_3_code 1 (some .long) :: ws) ({ frames := 0, cells := 0, slots := 0, locals := 0 } : Room)) (fun a U => a = #[(.ref o0)] ∧ Z.Warmed39 U.vm ∧ U.heap = h0) (fun _ _ _ _ _ => True) (fun _ U o U' => ∃ v L, o = .returned v ∧ PQ (some (.long (r4 w_days w_seconds))) h0 n0 v U'.heap L ∧ FrameEnd U o U' L ({ frames := 0, cells := 0, slots := 0, locals := 0 } : Room).cells ({ frames := 0, cells := 0, slots := 0, locals := 0 } : Room).slots) :=
  own_met (ret := (some .long)) (plainFor_of_name pn_4) (fun m => ef_4 m o0) (fun p e s m below meth c s₁ X hx hby hml hown hnm hZ e0 => OwnFin.wide (j4_0 X hx hZ hw hby hml hown e0 (Fr.nil n0) Z0 o0 w_days w_seconds F_days F_seconds) (Nat.zero_le _) (Nat.zero_le _))
theorem pn_0 : plainName "com/example/slotd/slotd/calendar/LengthLongestSecondsPinLaw" = true := by first | (simp [plainName, overriddenIn]; done) | decide +kernel
theorem ef_0 (m : MethodId) (q0 : Int64) (q1 : Int64) (q2 : Int64) (q3 : Int64) : entryFrame m #[(.long q0), (.long q1), (.long q2), (.long q3)] maxLocals = mkF m 0 #[.val (.long q0), .second, .val (.long q1), .second, .val (.long q2), .second, .val (.long q3), .second, .unset, .unset, .unset, .unset, .unset, .unset, .unset, .unset] [] := by first | (simp [entryFrame, mkF, argsToLocals, Value.category, maxLocals]; done) | rfl
theorem pd_1 : parseMethodDescriptor "(JJ)V" = some ⟨[.long, .long], none⟩ := by decide +kernel
theorem pd_2 : parseMethodDescriptor "()J" = some ⟨[], some .long⟩ := by decide +kernel
def v0_88 (q0 : Int64) (q1 : Int64) (q2 : Int64) (q3 : Int64) : Int32 := (if ((r4 q0 q1) + (r4 q2 q3)) = (r4 (q0 + q2) (q1 + q3)) then (1 : Int32) else (0 : Int32))
def v0_107  : Int32 := (if (r4 (1 : Int64) (0 : Int64)) = (129600 : Int64) then (1 : Int32) else (0 : Int32))
def v0_124 (q1 : Int64) : Int32 := (if (r4 (0 : Int64) q1) = q1 then (1 : Int32) else (0 : Int32))
theorem own_add (a b c d : Int64) : (r4 a b) + (r4 c d) = r4 (a + c) (b + d) := by
  unfold r4 f4_0
  rw [Int64.add_mul]
  ac_rfl
theorem br0_128 (q0 : Int64) (q1 : Int64) (q2 : Int64) (q3 : Int64) : ¬ ((v0_88 q0 q1 q2 q3) = (0 : Int32)) := by
  unfold v0_88
  rw [if_pos (own_add _ _ _ _)]
  decide
theorem br0_133  : ¬ (v0_107 = (0 : Int32)) := by decide
theorem br0_138 (q1 : Int64) : ¬ ((v0_124 q1) = (0 : Int32)) := by
  have h : r4 0 q1 = q1 := by unfold r4 f4_0; rw [Int64.zero_mul, Int64.zero_add]
  unfold v0_124
  rw [if_pos h]
  decide
set_option maxRecDepth 65536 in
set_option maxHeartbeats 40000000 in
theorem j0 {p : Program} {l : Launch} {e : Env} {s : State} {m : MethodId} {args : Array Value} {below : List Frame} {meth : Method} {c : Code} {T0 : State} {locs : List Loc} {Z : State} {a0 : Array Value} {h0 : Heap} {n0 : Nat}
    (X0 : Stand p l e room_1 s m args below meth c T0 locs 0 0) (hx : p.tables.exec = Jvm.exec) (hZ : Z.Warmed39 s.vm) (hw : ∀ d ∈ tables_1, d.before a0 Z = true) (hby : c.code = code) (hml : c.maxLocals = 16) (hown : s.vm.findClass "com/example/slotd/slotd/calendar/LengthLongestSecondsPinLaw" = some m.cls) (hnm : meth.name = "law") (e0 : T0.heap = h0) (N0 : Fr n0 locs) (Z0 : n0 ≤ h0.size) (q0 : Int64) (q1 : Int64) (q2 : Int64) (q3 : Int64) :
    OwnFin X0 (some .boolean) (LQ n0) room_1.cells room_1.slots (mkF m 0 #[.val (.long q0), .second, .val (.long q1), .second, .val (.long q2), .second, .val (.long q3), .second, .unset, .unset, .unset, .unset, .unset, .unset, .unset, .unset] []) := by
  obtain ⟨T1, h1, X1, e1, E1, A1, D1, -, st1⟩ := newO X0 hx hZ hown (hw _ (List.mem_of_getElem? (i := 0) rfl)) (hw _ (List.mem_of_getElem? (i := 1) rfl)) (hw _ (List.mem_of_getElem? (i := 2) rfl)) e0 (g := (mkF m 0 #[.val (.long q0), .second, .val (.long q1), .second, .val (.long q2), .second, .val (.long q3), .second, .unset, .unset, .unset, .unset, .unset, .unset, .unset, .unset] [])) rfl (hb hby at_0) (by decide) (by decide)
  obtain ⟨b1, y1⟩ : ∃ z, z = h0.size := ⟨_, rfl⟩
  rw [← y1] at A1 D1 st1
  have K1 := keep_ext E1
  have g_b1 : n0 ≤ b1 := by rw [y1]; exact Z0
  have Z1 : n0 ≤ h1.size := Nat.le_trans Z0 K1.1
  have F1_days : Fld Z h1 b1 "com/example/slotd/slotd/calendar/Length" "days" "J" (.long (0 : Int64)) := D1 (Or.inr (hw _ (List.mem_of_getElem? (i := 15) rfl))) (ty := .long) (by decide)
  have F1_seconds : Fld Z h1 b1 "com/example/slotd/slotd/calendar/Length" "seconds" "J" (.long (0 : Int64)) := D1 (Or.inr (hw _ (List.mem_of_getElem? (i := 17) rfl))) (ty := .long) (by decide)
  refine OwnFin.step (g' := (mkF m 3 #[.val (.long q0), .second, .val (.long q1), .second, .val (.long q2), .second, .val (.long q3), .second, .unset, .unset, .unset, .unset, .unset, .unset, .unset, .unset] [(.ref b1)])) X1 (fun t k => st1 _ k) ?_
  refine OwnFin.step (g' := (mkF m 4 #[.val (.long q0), .second, .val (.long q1), .second, .val (.long q2), .second, .val (.long q3), .second, .unset, .unset, .unset, .unset, .unset, .unset, .unset, .unset] [(.ref b1), (.ref b1)])) X1 (fun t k => XS.dup X1.here hx rfl (hb hby at_3) rfl rfl k) ?_
  refine OwnFin.step (g' := (mkF m 5 #[.val (.long q0), .second, .val (.long q1), .second, .val (.long q2), .second, .val (.long q3), .second, .unset, .unset, .unset, .unset, .unset, .unset, .unset, .unset] [(.long q0), (.ref b1), (.ref b1)])) X1 (fun t k => XT.lloadN X1.here hx rfl (hb hby at_4) rfl k) ?_
  refine OwnFin.step (g' := (mkF m 6 #[.val (.long q0), .second, .val (.long q1), .second, .val (.long q2), .second, .val (.long q3), .second, .unset, .unset, .unset, .unset, .unset, .unset, .unset, .unset] [(.long q1), (.long q0), (.ref b1), (.ref b1)])) X1 (fun t k => XT.lloadN X1.here hx rfl (hb hby at_5) rfl k) ?_
  obtain ⟨_, T2, L2, X2, ⟨rfl, N2q, u3, u4, u5, u6⟩, st2⟩ := own_callI X1 hx hZ (y := (⟨"com/example/slotd/slotd/calendar/Length", "<init>", "(JJ)V"⟩ : MethodName)) (W := 1) (a := b1) (argsL := [(.long q0), (.long q1)]) (rest := [(.ref b1)]) rfl hown (hw _ (List.mem_of_getElem? (i := 3) rfl)) (hw _ (List.mem_of_getElem? (i := 4) rfl)) (hw _ (List.mem_of_getElem? (i := 2) rfl)) (hw _ (List.mem_of_getElem? (i := 5) rfl)) (by decide) (rm1 l Z a0 hw [] b1 q0 q1 h1 n0 Z1 A1 g_b1 F1_days F1_seconds) (by decide) (by decide) (by decide) (by decide) e1 (g := (mkF m 6 #[.val (.long q0), .second, .val (.long q1), .second, .val (.long q2), .second, .val (.long q3), .second, .unset, .unset, .unset, .unset, .unset, .unset, .unset, .unset] [(.long q1), (.long q0), (.ref b1), (.ref b1)])) rfl (by rw [hml]; rfl) pd_1 rfl rfl (by show 2 * 0 + _ ≤ _; exact Nat.le_of_eq rfl) (hb hby at_6)
  have N2 := Fr.app N0 N2q
  obtain ⟨h2, e2⟩ : ∃ z, T2.heap = z := ⟨_, rfl⟩
  rw [e2] at u3 u4 u5 u6
  have K2 := u3
  have Z2 : n0 ≤ h2.size := Nat.le_trans Z1 K2.1
  refine OwnFin.step (g' := (mkF m 9 #[.val (.long q0), .second, .val (.long q1), .second, .val (.long q2), .second, .val (.long q3), .second, .unset, .unset, .unset, .unset, .unset, .unset, .unset, .unset] [(.ref b1)])) X2 (fun t k => st2 _ k) ?_
  refine OwnFin.step (g' := (mkF m 11 #[.val (.long q0), .second, .val (.long q1), .second, .val (.long q2), .second, .val (.long q3), .second, .val (.ref b1), .unset, .unset, .unset, .unset, .unset, .unset, .unset] [])) X2 (fun t k => XS.astore X2.here hx rfl (hb hby at_9) rfl rfl (l' := #[.val (.long q0), .second, .val (.long q1), .second, .val (.long q2), .second, .val (.long q3), .second, .val (.ref b1), .unset, .unset, .unset, .unset, .unset, .unset, .unset]) rfl k) ?_
  obtain ⟨T7, h7, X7, e7, E7, A7, D7, -, st7⟩ := newO X2 hx hZ hown (hw _ (List.mem_of_getElem? (i := 0) rfl)) (hw _ (List.mem_of_getElem? (i := 1) rfl)) (hw _ (List.mem_of_getElem? (i := 2) rfl)) e2 (g := (mkF m 11 #[.val (.long q0), .second, .val (.long q1), .second, .val (.long q2), .second, .val (.long q3), .second, .val (.ref b1), .unset, .unset, .unset, .unset, .unset, .unset, .unset] [])) rfl (hb hby at_11) (by decide) (by decide)
  obtain ⟨b7, y7⟩ : ∃ z, z = h2.size := ⟨_, rfl⟩
  rw [← y7] at A7 D7 st7
  have K7 := keep_ext E7
  have ne_b1_b7 : b1 ≠ b7 := Exa.neS u4 y7
  have g_b7 : n0 ≤ b7 := by rw [y7]; exact Z2
  have Z7 : n0 ≤ h7.size := Nat.le_trans Z2 K7.1
  have F7_days : Fld Z h7 b7 "com/example/slotd/slotd/calendar/Length" "days" "J" (.long (0 : Int64)) := D7 (Or.inr (hw _ (List.mem_of_getElem? (i := 15) rfl))) (ty := .long) (by decide)
  have F7_seconds : Fld Z h7 b7 "com/example/slotd/slotd/calendar/Length" "seconds" "J" (.long (0 : Int64)) := D7 (Or.inr (hw _ (List.mem_of_getElem? (i := 17) rfl))) (ty := .long) (by decide)
  refine OwnFin.step (g' := (mkF m 14 #[.val (.long q0), .second, .val (.long q1), .second, .val (.long q2), .second, .val (.long q3), .second, .val (.ref b1), .unset, .unset, .unset, .unset, .unset, .unset, .unset] [(.ref b7)])) X7 (fun t k => st7 _ k) ?_
  refine OwnFin.step (g' := (mkF m 15 #[.val (.long q0), .second, .val (.long q1), .second, .val (.long q2), .second, .val (.long q3), .second, .val (.ref b1), .unset, .unset, .unset, .unset, .unset, .unset, .unset] [(.ref b7), (.ref b7)])) X7 (fun t k => XS.dup X7.here hx rfl (hb hby at_14) rfl rfl k) ?_
  refine OwnFin.step (g' := (mkF m 17 #[.val (.long q0), .second, .val (.long q1), .second, .val (.long q2), .second, .val (.long q3), .second, .val (.ref b1), .unset, .unset, .unset, .unset, .unset, .unset, .unset] [(.long q2), (.ref b7), (.ref b7)])) X7 (fun t k => XT.lload X7.here hx rfl (hb hby at_15) rfl k) ?_
  refine OwnFin.step (g' := (mkF m 19 #[.val (.long q0), .second, .val (.long q1), .second, .val (.long q2), .second, .val (.long q3), .second, .val (.ref b1), .unset, .unset, .unset, .unset, .unset, .unset, .unset] [(.long q3), (.long q2), (.ref b7), (.ref b7)])) X7 (fun t k => XT.lload X7.here hx rfl (hb hby at_17) rfl k) ?_
  obtain ⟨_, T8, L8, X8, ⟨rfl, N8q, u9, u10, u11, u12⟩, st8⟩ := own_callI X7 hx hZ (y := (⟨"com/example/slotd/slotd/calendar/Length", "<init>", "(JJ)V"⟩ : MethodName)) (W := 1) (a := b7) (argsL := [(.long q2), (.long q3)]) (rest := [(.ref b7)]) rfl hown (hw _ (List.mem_of_getElem? (i := 3) rfl)) (hw _ (List.mem_of_getElem? (i := 4) rfl)) (hw _ (List.mem_of_getElem? (i := 2) rfl)) (hw _ (List.mem_of_getElem? (i := 5) rfl)) (by decide) (rm1 l Z a0 hw [] b7 q2 q3 h7 n0 Z7 A7 g_b7 F7_days F7_seconds) (by decide) (by decide) (by decide) (by decide) e7 (g := (mkF m 19 #[.val (.long q0), .second, .val (.long q1), .second, .val (.long q2), .second, .val (.long q3), .second, .val (.ref b1), .unset, .unset, .unset, .unset, .unset, .unset, .unset] [(.long q3), (.long q2), (.ref b7), (.ref b7)])) rfl (by rw [hml]; rfl) pd_1 rfl rfl (by show 2 * 0 + _ ≤ _; exact Nat.le_of_eq rfl) (hb hby at_19)
  have N8 := Fr.app N2 N8q
  obtain ⟨h8, e8⟩ : ∃ z, T8.heap = z := ⟨_, rfl⟩
  rw [e8] at u9 u10 u11 u12
  have K8 := u9
  have Z8 : n0 ≤ h8.size := Nat.le_trans Z7 K8.1
  refine OwnFin.step (g' := (mkF m 22 #[.val (.long q0), .second, .val (.long q1), .second, .val (.long q2), .second, .val (.long q3), .second, .val (.ref b1), .unset, .unset, .unset, .unset, .unset, .unset, .unset] [(.ref b7)])) X8 (fun t k => st8 _ k) ?_
  refine OwnFin.step (g' := (mkF m 24 #[.val (.long q0), .second, .val (.long q1), .second, .val (.long q2), .second, .val (.long q3), .second, .val (.ref b1), .val (.ref b7), .unset, .unset, .unset, .unset, .unset, .unset] [])) X8 (fun t k => XS.astore X8.here hx rfl (hb hby at_22) rfl rfl (l' := #[.val (.long q0), .second, .val (.long q1), .second, .val (.long q2), .second, .val (.long q3), .second, .val (.ref b1), .val (.ref b7), .unset, .unset, .unset, .unset, .unset, .unset]) rfl k) ?_
  obtain ⟨T13, h13, X13, e13, E13, A13, D13, -, st13⟩ := newO X8 hx hZ hown (hw _ (List.mem_of_getElem? (i := 0) rfl)) (hw _ (List.mem_of_getElem? (i := 1) rfl)) (hw _ (List.mem_of_getElem? (i := 2) rfl)) e8 (g := (mkF m 24 #[.val (.long q0), .second, .val (.long q1), .second, .val (.long q2), .second, .val (.long q3), .second, .val (.ref b1), .val (.ref b7), .unset, .unset, .unset, .unset, .unset, .unset] [])) rfl (hb hby at_24) (by decide) (by decide)
  obtain ⟨b13, y13⟩ : ∃ z, z = h8.size := ⟨_, rfl⟩
  rw [← y13] at A13 D13 st13
  have K13 := keep_ext E13
  have E14 : Exa Z h8 b1 "com/example/slotd/slotd/calendar/Length" := (Exa.keep (Exa.keep u4 K7) K8)
  have ne_b1_b13 : b1 ≠ b13 := Exa.neS E14 y13
  have ne_b7_b13 : b7 ≠ b13 := Exa.neS u10 y13
  have g_b13 : n0 ≤ b13 := by rw [y13]; exact Z8
  have Z13 : n0 ≤ h13.size := Nat.le_trans Z8 K13.1
  have F13_days : Fld Z h13 b13 "com/example/slotd/slotd/calendar/Length" "days" "J" (.long (0 : Int64)) := D13 (Or.inr (hw _ (List.mem_of_getElem? (i := 15) rfl))) (ty := .long) (by decide)
  have F13_seconds : Fld Z h13 b13 "com/example/slotd/slotd/calendar/Length" "seconds" "J" (.long (0 : Int64)) := D13 (Or.inr (hw _ (List.mem_of_getElem? (i := 17) rfl))) (ty := .long) (by decide)
  refine OwnFin.step (g' := (mkF m 27 #[.val (.long q0), .second, .val (.long q1), .second, .val (.long q2), .second, .val (.long q3), .second, .val (.ref b1), .val (.ref b7), .unset, .unset, .unset, .unset, .unset, .unset] [(.ref b13)])) X13 (fun t k => st13 _ k) ?_
  refine OwnFin.step (g' := (mkF m 28 #[.val (.long q0), .second, .val (.long q1), .second, .val (.long q2), .second, .val (.long q3), .second, .val (.ref b1), .val (.ref b7), .unset, .unset, .unset, .unset, .unset, .unset] [(.ref b13), (.ref b13)])) X13 (fun t k => XS.dup X13.here hx rfl (hb hby at_27) rfl rfl k) ?_
  refine OwnFin.step (g' := (mkF m 29 #[.val (.long q0), .second, .val (.long q1), .second, .val (.long q2), .second, .val (.long q3), .second, .val (.ref b1), .val (.ref b7), .unset, .unset, .unset, .unset, .unset, .unset] [(.long q0), (.ref b13), (.ref b13)])) X13 (fun t k => XT.lloadN X13.here hx rfl (hb hby at_28) rfl k) ?_
  refine OwnFin.step (g' := (mkF m 31 #[.val (.long q0), .second, .val (.long q1), .second, .val (.long q2), .second, .val (.long q3), .second, .val (.ref b1), .val (.ref b7), .unset, .unset, .unset, .unset, .unset, .unset] [(.long q2), (.long q0), (.ref b13), (.ref b13)])) X13 (fun t k => XT.lload X13.here hx rfl (hb hby at_29) rfl k) ?_
  refine OwnFin.step (g' := (mkF m 32 #[.val (.long q0), .second, .val (.long q1), .second, .val (.long q2), .second, .val (.long q3), .second, .val (.ref b1), .val (.ref b7), .unset, .unset, .unset, .unset, .unset, .unset] [(.long (q0 + q2)), (.ref b13), (.ref b13)])) X13 (fun t k => XT.ladd X13.here hx rfl (hb hby at_31) rfl k) ?_
  refine OwnFin.step (g' := (mkF m 33 #[.val (.long q0), .second, .val (.long q1), .second, .val (.long q2), .second, .val (.long q3), .second, .val (.ref b1), .val (.ref b7), .unset, .unset, .unset, .unset, .unset, .unset] [(.long q1), (.long (q0 + q2)), (.ref b13), (.ref b13)])) X13 (fun t k => XT.lloadN X13.here hx rfl (hb hby at_32) rfl k) ?_
  refine OwnFin.step (g' := (mkF m 35 #[.val (.long q0), .second, .val (.long q1), .second, .val (.long q2), .second, .val (.long q3), .second, .val (.ref b1), .val (.ref b7), .unset, .unset, .unset, .unset, .unset, .unset] [(.long q3), (.long q1), (.long (q0 + q2)), (.ref b13), (.ref b13)])) X13 (fun t k => XT.lload X13.here hx rfl (hb hby at_33) rfl k) ?_
  refine OwnFin.step (g' := (mkF m 36 #[.val (.long q0), .second, .val (.long q1), .second, .val (.long q2), .second, .val (.long q3), .second, .val (.ref b1), .val (.ref b7), .unset, .unset, .unset, .unset, .unset, .unset] [(.long (q1 + q3)), (.long (q0 + q2)), (.ref b13), (.ref b13)])) X13 (fun t k => XT.ladd X13.here hx rfl (hb hby at_35) rfl k) ?_
  obtain ⟨_, T15, L15, X15, ⟨rfl, N15q, u16, u17, u18, u19⟩, st15⟩ := own_callI X13 hx hZ (y := (⟨"com/example/slotd/slotd/calendar/Length", "<init>", "(JJ)V"⟩ : MethodName)) (W := 1) (a := b13) (argsL := [(.long (q0 + q2)), (.long (q1 + q3))]) (rest := [(.ref b13)]) rfl hown (hw _ (List.mem_of_getElem? (i := 3) rfl)) (hw _ (List.mem_of_getElem? (i := 4) rfl)) (hw _ (List.mem_of_getElem? (i := 2) rfl)) (hw _ (List.mem_of_getElem? (i := 5) rfl)) (by decide) (rm1 l Z a0 hw [] b13 (q0 + q2) (q1 + q3) h13 n0 Z13 A13 g_b13 F13_days F13_seconds) (by decide) (by decide) (by decide) (by decide) e13 (g := (mkF m 36 #[.val (.long q0), .second, .val (.long q1), .second, .val (.long q2), .second, .val (.long q3), .second, .val (.ref b1), .val (.ref b7), .unset, .unset, .unset, .unset, .unset, .unset] [(.long (q1 + q3)), (.long (q0 + q2)), (.ref b13), (.ref b13)])) rfl (by rw [hml]; rfl) pd_1 rfl rfl (by show 2 * 0 + _ ≤ _; exact Nat.le_of_eq rfl) (hb hby at_36)
  have N15 := Fr.app N8 N15q
  obtain ⟨h15, e15⟩ : ∃ z, T15.heap = z := ⟨_, rfl⟩
  rw [e15] at u16 u17 u18 u19
  have K15 := u16
  have Z15 : n0 ≤ h15.size := Nat.le_trans Z13 K15.1
  refine OwnFin.step (g' := (mkF m 39 #[.val (.long q0), .second, .val (.long q1), .second, .val (.long q2), .second, .val (.long q3), .second, .val (.ref b1), .val (.ref b7), .unset, .unset, .unset, .unset, .unset, .unset] [(.ref b13)])) X15 (fun t k => st15 _ k) ?_
  refine OwnFin.step (g' := (mkF m 41 #[.val (.long q0), .second, .val (.long q1), .second, .val (.long q2), .second, .val (.long q3), .second, .val (.ref b1), .val (.ref b7), .val (.ref b13), .unset, .unset, .unset, .unset, .unset] [])) X15 (fun t k => XS.astore X15.here hx rfl (hb hby at_39) rfl rfl (l' := #[.val (.long q0), .second, .val (.long q1), .second, .val (.long q2), .second, .val (.long q3), .second, .val (.ref b1), .val (.ref b7), .val (.ref b13), .unset, .unset, .unset, .unset, .unset]) rfl k) ?_
  obtain ⟨T20, h20, X20, e20, E20, A20, D20, -, st20⟩ := newO X15 hx hZ hown (hw _ (List.mem_of_getElem? (i := 0) rfl)) (hw _ (List.mem_of_getElem? (i := 1) rfl)) (hw _ (List.mem_of_getElem? (i := 2) rfl)) e15 (g := (mkF m 41 #[.val (.long q0), .second, .val (.long q1), .second, .val (.long q2), .second, .val (.long q3), .second, .val (.ref b1), .val (.ref b7), .val (.ref b13), .unset, .unset, .unset, .unset, .unset] [])) rfl (hb hby at_41) (by decide) (by decide)
  obtain ⟨b20, y20⟩ : ∃ z, z = h15.size := ⟨_, rfl⟩
  rw [← y20] at A20 D20 st20
  have K20 := keep_ext E20
  have E21 : Exa Z h15 b1 "com/example/slotd/slotd/calendar/Length" := (Exa.keep (Exa.keep E14 K13) K15)
  have ne_b1_b20 : b1 ≠ b20 := Exa.neS E21 y20
  have E22 : Exa Z h15 b7 "com/example/slotd/slotd/calendar/Length" := (Exa.keep (Exa.keep u10 K13) K15)
  have ne_b7_b20 : b7 ≠ b20 := Exa.neS E22 y20
  have ne_b13_b20 : b13 ≠ b20 := Exa.neS u17 y20
  have g_b20 : n0 ≤ b20 := by rw [y20]; exact Z15
  have Z20 : n0 ≤ h20.size := Nat.le_trans Z15 K20.1
  have F20_days : Fld Z h20 b20 "com/example/slotd/slotd/calendar/Length" "days" "J" (.long (0 : Int64)) := D20 (Or.inr (hw _ (List.mem_of_getElem? (i := 15) rfl))) (ty := .long) (by decide)
  have F20_seconds : Fld Z h20 b20 "com/example/slotd/slotd/calendar/Length" "seconds" "J" (.long (0 : Int64)) := D20 (Or.inr (hw _ (List.mem_of_getElem? (i := 17) rfl))) (ty := .long) (by decide)
  refine OwnFin.step (g' := (mkF m 44 #[.val (.long q0), .second, .val (.long q1), .second, .val (.long q2), .second, .val (.long q3), .second, .val (.ref b1), .val (.ref b7), .val (.ref b13), .unset, .unset, .unset, .unset, .unset] [(.ref b20)])) X20 (fun t k => st20 _ k) ?_
  refine OwnFin.step (g' := (mkF m 45 #[.val (.long q0), .second, .val (.long q1), .second, .val (.long q2), .second, .val (.long q3), .second, .val (.ref b1), .val (.ref b7), .val (.ref b13), .unset, .unset, .unset, .unset, .unset] [(.ref b20), (.ref b20)])) X20 (fun t k => XS.dup X20.here hx rfl (hb hby at_44) rfl rfl k) ?_
  refine OwnFin.step (g' := (mkF m 46 #[.val (.long q0), .second, .val (.long q1), .second, .val (.long q2), .second, .val (.long q3), .second, .val (.ref b1), .val (.ref b7), .val (.ref b13), .unset, .unset, .unset, .unset, .unset] [(.long (1 : Int64)), (.ref b20), (.ref b20)])) X20 (fun t k => XT.lconst X20.here hx rfl (hb hby at_45) k) ?_
  refine OwnFin.step (g' := (mkF m 47 #[.val (.long q0), .second, .val (.long q1), .second, .val (.long q2), .second, .val (.long q3), .second, .val (.ref b1), .val (.ref b7), .val (.ref b13), .unset, .unset, .unset, .unset, .unset] [(.long (0 : Int64)), (.long (1 : Int64)), (.ref b20), (.ref b20)])) X20 (fun t k => XT.lconst X20.here hx rfl (hb hby at_46) k) ?_
  obtain ⟨_, T23, L23, X23, ⟨rfl, N23q, u24, u25, u26, u27⟩, st23⟩ := own_callI X20 hx hZ (y := (⟨"com/example/slotd/slotd/calendar/Length", "<init>", "(JJ)V"⟩ : MethodName)) (W := 1) (a := b20) (argsL := [(.long (1 : Int64)), (.long (0 : Int64))]) (rest := [(.ref b20)]) rfl hown (hw _ (List.mem_of_getElem? (i := 3) rfl)) (hw _ (List.mem_of_getElem? (i := 4) rfl)) (hw _ (List.mem_of_getElem? (i := 2) rfl)) (hw _ (List.mem_of_getElem? (i := 5) rfl)) (by decide) (rm1 l Z a0 hw [] b20 (1 : Int64) (0 : Int64) h20 n0 Z20 A20 g_b20 F20_days F20_seconds) (by decide) (by decide) (by decide) (by decide) e20 (g := (mkF m 47 #[.val (.long q0), .second, .val (.long q1), .second, .val (.long q2), .second, .val (.long q3), .second, .val (.ref b1), .val (.ref b7), .val (.ref b13), .unset, .unset, .unset, .unset, .unset] [(.long (0 : Int64)), (.long (1 : Int64)), (.ref b20), (.ref b20)])) rfl (by rw [hml]; rfl) pd_1 rfl rfl (by show 2 * 0 + _ ≤ _; exact Nat.le_of_eq rfl) (hb hby at_47)
  have N23 := Fr.app N15 N23q
  obtain ⟨h23, e23⟩ : ∃ z, T23.heap = z := ⟨_, rfl⟩
  rw [e23] at u24 u25 u26 u27
  have K23 := u24
  have Z23 : n0 ≤ h23.size := Nat.le_trans Z20 K23.1
  refine OwnFin.step (g' := (mkF m 50 #[.val (.long q0), .second, .val (.long q1), .second, .val (.long q2), .second, .val (.long q3), .second, .val (.ref b1), .val (.ref b7), .val (.ref b13), .unset, .unset, .unset, .unset, .unset] [(.ref b20)])) X23 (fun t k => st23 _ k) ?_
  refine OwnFin.step (g' := (mkF m 52 #[.val (.long q0), .second, .val (.long q1), .second, .val (.long q2), .second, .val (.long q3), .second, .val (.ref b1), .val (.ref b7), .val (.ref b13), .val (.ref b20), .unset, .unset, .unset, .unset] [])) X23 (fun t k => XS.astore X23.here hx rfl (hb hby at_50) rfl rfl (l' := #[.val (.long q0), .second, .val (.long q1), .second, .val (.long q2), .second, .val (.long q3), .second, .val (.ref b1), .val (.ref b7), .val (.ref b13), .val (.ref b20), .unset, .unset, .unset, .unset]) rfl k) ?_
  obtain ⟨T28, h28, X28, e28, E28, A28, D28, -, st28⟩ := newO X23 hx hZ hown (hw _ (List.mem_of_getElem? (i := 0) rfl)) (hw _ (List.mem_of_getElem? (i := 1) rfl)) (hw _ (List.mem_of_getElem? (i := 2) rfl)) e23 (g := (mkF m 52 #[.val (.long q0), .second, .val (.long q1), .second, .val (.long q2), .second, .val (.long q3), .second, .val (.ref b1), .val (.ref b7), .val (.ref b13), .val (.ref b20), .unset, .unset, .unset, .unset] [])) rfl (hb hby at_52) (by decide) (by decide)
  obtain ⟨b28, y28⟩ : ∃ z, z = h23.size := ⟨_, rfl⟩
  rw [← y28] at A28 D28 st28
  have K28 := keep_ext E28
  have E29 : Exa Z h23 b1 "com/example/slotd/slotd/calendar/Length" := (Exa.keep (Exa.keep E21 K20) K23)
  have ne_b1_b28 : b1 ≠ b28 := Exa.neS E29 y28
  have E30 : Exa Z h23 b7 "com/example/slotd/slotd/calendar/Length" := (Exa.keep (Exa.keep E22 K20) K23)
  have ne_b7_b28 : b7 ≠ b28 := Exa.neS E30 y28
  have E31 : Exa Z h23 b13 "com/example/slotd/slotd/calendar/Length" := (Exa.keep (Exa.keep u17 K20) K23)
  have ne_b13_b28 : b13 ≠ b28 := Exa.neS E31 y28
  have ne_b20_b28 : b20 ≠ b28 := Exa.neS u25 y28
  have g_b28 : n0 ≤ b28 := by rw [y28]; exact Z23
  have Z28 : n0 ≤ h28.size := Nat.le_trans Z23 K28.1
  have F28_days : Fld Z h28 b28 "com/example/slotd/slotd/calendar/Length" "days" "J" (.long (0 : Int64)) := D28 (Or.inr (hw _ (List.mem_of_getElem? (i := 15) rfl))) (ty := .long) (by decide)
  have F28_seconds : Fld Z h28 b28 "com/example/slotd/slotd/calendar/Length" "seconds" "J" (.long (0 : Int64)) := D28 (Or.inr (hw _ (List.mem_of_getElem? (i := 17) rfl))) (ty := .long) (by decide)
  refine OwnFin.step (g' := (mkF m 55 #[.val (.long q0), .second, .val (.long q1), .second, .val (.long q2), .second, .val (.long q3), .second, .val (.ref b1), .val (.ref b7), .val (.ref b13), .val (.ref b20), .unset, .unset, .unset, .unset] [(.ref b28)])) X28 (fun t k => st28 _ k) ?_
  refine OwnFin.step (g' := (mkF m 56 #[.val (.long q0), .second, .val (.long q1), .second, .val (.long q2), .second, .val (.long q3), .second, .val (.ref b1), .val (.ref b7), .val (.ref b13), .val (.ref b20), .unset, .unset, .unset, .unset] [(.ref b28), (.ref b28)])) X28 (fun t k => XS.dup X28.here hx rfl (hb hby at_55) rfl rfl k) ?_
  refine OwnFin.step (g' := (mkF m 57 #[.val (.long q0), .second, .val (.long q1), .second, .val (.long q2), .second, .val (.long q3), .second, .val (.ref b1), .val (.ref b7), .val (.ref b13), .val (.ref b20), .unset, .unset, .unset, .unset] [(.long (0 : Int64)), (.ref b28), (.ref b28)])) X28 (fun t k => XT.lconst X28.here hx rfl (hb hby at_56) k) ?_
  refine OwnFin.step (g' := (mkF m 58 #[.val (.long q0), .second, .val (.long q1), .second, .val (.long q2), .second, .val (.long q3), .second, .val (.ref b1), .val (.ref b7), .val (.ref b13), .val (.ref b20), .unset, .unset, .unset, .unset] [(.long q1), (.long (0 : Int64)), (.ref b28), (.ref b28)])) X28 (fun t k => XT.lloadN X28.here hx rfl (hb hby at_57) rfl k) ?_
  obtain ⟨_, T32, L32, X32, ⟨rfl, N32q, u33, u34, u35, u36⟩, st32⟩ := own_callI X28 hx hZ (y := (⟨"com/example/slotd/slotd/calendar/Length", "<init>", "(JJ)V"⟩ : MethodName)) (W := 1) (a := b28) (argsL := [(.long (0 : Int64)), (.long q1)]) (rest := [(.ref b28)]) rfl hown (hw _ (List.mem_of_getElem? (i := 3) rfl)) (hw _ (List.mem_of_getElem? (i := 4) rfl)) (hw _ (List.mem_of_getElem? (i := 2) rfl)) (hw _ (List.mem_of_getElem? (i := 5) rfl)) (by decide) (rm1 l Z a0 hw [] b28 (0 : Int64) q1 h28 n0 Z28 A28 g_b28 F28_days F28_seconds) (by decide) (by decide) (by decide) (by decide) e28 (g := (mkF m 58 #[.val (.long q0), .second, .val (.long q1), .second, .val (.long q2), .second, .val (.long q3), .second, .val (.ref b1), .val (.ref b7), .val (.ref b13), .val (.ref b20), .unset, .unset, .unset, .unset] [(.long q1), (.long (0 : Int64)), (.ref b28), (.ref b28)])) rfl (by rw [hml]; rfl) pd_1 rfl rfl (by show 2 * 0 + _ ≤ _; exact Nat.le_of_eq rfl) (hb hby at_58)
  have N32 := Fr.app N23 N32q
  obtain ⟨h32, e32⟩ : ∃ z, T32.heap = z := ⟨_, rfl⟩
  rw [e32] at u33 u34 u35 u36
  have K32 := u33
  have Z32 : n0 ≤ h32.size := Nat.le_trans Z28 K32.1
  refine OwnFin.step (g' := (mkF m 61 #[.val (.long q0), .second, .val (.long q1), .second, .val (.long q2), .second, .val (.long q3), .second, .val (.ref b1), .val (.ref b7), .val (.ref b13), .val (.ref b20), .unset, .unset, .unset, .unset] [(.ref b28)])) X32 (fun t k => st32 _ k) ?_
  refine OwnFin.step (g' := (mkF m 63 #[.val (.long q0), .second, .val (.long q1), .second, .val (.long q2), .second, .val (.long q3), .second, .val (.ref b1), .val (.ref b7), .val (.ref b13), .val (.ref b20), .val (.ref b28), .unset, .unset, .unset] [])) X32 (fun t k => XS.astore X32.here hx rfl (hb hby at_61) rfl rfl (l' := #[.val (.long q0), .second, .val (.long q1), .second, .val (.long q2), .second, .val (.long q3), .second, .val (.ref b1), .val (.ref b7), .val (.ref b13), .val (.ref b20), .val (.ref b28), .unset, .unset, .unset]) rfl k) ?_
  refine OwnFin.step (g' := (mkF m 65 #[.val (.long q0), .second, .val (.long q1), .second, .val (.long q2), .second, .val (.long q3), .second, .val (.ref b1), .val (.ref b7), .val (.ref b13), .val (.ref b20), .val (.ref b28), .unset, .unset, .unset] [(.ref b1)])) X32 (fun t k => XS.aload X32.here hx rfl (hb hby at_63) rfl rfl k) ?_
  have F38 : Fld Z h32 b1 "com/example/slotd/slotd/calendar/Length" "days" "J" (.long q0) := ((((((((u5.keep K7 nin0).keep K8 (ninS ne_b1_b7 nin0)).keep K13 nin0).keep K15 (ninS ne_b1_b13 nin0)).keep K20 nin0).keep K23 (ninS ne_b1_b20 nin0)).keep K28 nin0).keep K32 (ninS ne_b1_b28 nin0))
  have F39 : Fld Z h32 b1 "com/example/slotd/slotd/calendar/Length" "seconds" "J" (.long q1) := ((((((((u6.keep K7 nin0).keep K8 (ninS ne_b1_b7 nin0)).keep K13 nin0).keep K15 (ninS ne_b1_b13 nin0)).keep K20 nin0).keep K23 (ninS ne_b1_b20 nin0)).keep K28 nin0).keep K32 (ninS ne_b1_b28 nin0))
  have E40 : Exa Z h32 b1 "com/example/slotd/slotd/calendar/Length" := (Exa.keep (Exa.keep E29 K28) K32)
  obtain ⟨_, T37, L37, X37, ⟨rfl, f37, N37q⟩, st37⟩ := own_callV X32 hx hZ (y := (⟨"com/example/slotd/slotd/calendar/Length", "longestSeconds", "()J"⟩ : MethodName)) (W := 0) (a := b1) (argsL := []) (rest := []) hown (hw _ (List.mem_of_getElem? (i := 18) rfl)) (hw _ (List.mem_of_getElem? (i := 19) rfl)) (hw _ (List.mem_of_getElem? (i := 21) rfl)) (hw _ (List.mem_of_getElem? (i := 20) rfl)) (hw _ (List.mem_of_getElem? (i := 2) rfl)) (hw _ (List.mem_of_getElem? (i := 22) rfl)) (by decide) E40 (rm4 l Z a0 hw [] b1 q0 q1 h32 n0 Z32 F38 F39) (by decide) (by decide) (by decide) (by decide) e32 (g := (mkF m 65 #[.val (.long q0), .second, .val (.long q1), .second, .val (.long q2), .second, .val (.long q3), .second, .val (.ref b1), .val (.ref b7), .val (.ref b13), .val (.ref b20), .val (.ref b28), .unset, .unset, .unset] [(.ref b1)])) rfl (by rw [hml]; rfl) pd_2 rfl rfl (by show 2 * 0 + _ ≤ _; exact Nat.le_of_eq rfl) (hb hby at_65)
  have N37 := Fr.app N32 N37q
  refine OwnFin.step (g' := (mkF m 68 #[.val (.long q0), .second, .val (.long q1), .second, .val (.long q2), .second, .val (.long q3), .second, .val (.ref b1), .val (.ref b7), .val (.ref b13), .val (.ref b20), .val (.ref b28), .unset, .unset, .unset] [(.long (r4 q0 q1))])) X37 (fun t k => st37 _ k) ?_
  refine OwnFin.step (g' := (mkF m 70 #[.val (.long q0), .second, .val (.long q1), .second, .val (.long q2), .second, .val (.long q3), .second, .val (.ref b1), .val (.ref b7), .val (.ref b13), .val (.ref b20), .val (.ref b28), .unset, .unset, .unset] [(.ref b7), (.long (r4 q0 q1))])) X37 (fun t k => XS.aload X37.here hx rfl (hb hby at_68) rfl rfl k) ?_
  have F42 : Fld Z h32 b7 "com/example/slotd/slotd/calendar/Length" "days" "J" (.long q2) := ((((((u11.keep K13 nin0).keep K15 (ninS ne_b7_b13 nin0)).keep K20 nin0).keep K23 (ninS ne_b7_b20 nin0)).keep K28 nin0).keep K32 (ninS ne_b7_b28 nin0))
  have F43 : Fld Z h32 b7 "com/example/slotd/slotd/calendar/Length" "seconds" "J" (.long q3) := ((((((u12.keep K13 nin0).keep K15 (ninS ne_b7_b13 nin0)).keep K20 nin0).keep K23 (ninS ne_b7_b20 nin0)).keep K28 nin0).keep K32 (ninS ne_b7_b28 nin0))
  have E44 : Exa Z h32 b7 "com/example/slotd/slotd/calendar/Length" := (Exa.keep (Exa.keep E30 K28) K32)
  obtain ⟨_, T41, L41, X41, ⟨rfl, f41, N41q⟩, st41⟩ := own_callV X37 hx hZ (y := (⟨"com/example/slotd/slotd/calendar/Length", "longestSeconds", "()J"⟩ : MethodName)) (W := 2) (a := b7) (argsL := []) (rest := [(.long (r4 q0 q1))]) hown (hw _ (List.mem_of_getElem? (i := 18) rfl)) (hw _ (List.mem_of_getElem? (i := 19) rfl)) (hw _ (List.mem_of_getElem? (i := 21) rfl)) (hw _ (List.mem_of_getElem? (i := 20) rfl)) (hw _ (List.mem_of_getElem? (i := 2) rfl)) (hw _ (List.mem_of_getElem? (i := 22) rfl)) (by decide) E44 (rm4 l Z a0 hw [] b7 q2 q3 h32 n0 Z32 F42 F43) (by decide) (by decide) (by decide) (by decide) f37 (g := (mkF m 70 #[.val (.long q0), .second, .val (.long q1), .second, .val (.long q2), .second, .val (.long q3), .second, .val (.ref b1), .val (.ref b7), .val (.ref b13), .val (.ref b20), .val (.ref b28), .unset, .unset, .unset] [(.ref b7), (.long (r4 q0 q1))])) rfl (by rw [hml]; rfl) pd_2 rfl rfl (by show 2 * 0 + _ ≤ _; exact Nat.le_of_eq rfl) (hb hby at_70)
  have N41 := Fr.app N37 N41q
  refine OwnFin.step (g' := (mkF m 73 #[.val (.long q0), .second, .val (.long q1), .second, .val (.long q2), .second, .val (.long q3), .second, .val (.ref b1), .val (.ref b7), .val (.ref b13), .val (.ref b20), .val (.ref b28), .unset, .unset, .unset] [(.long (r4 q2 q3)), (.long (r4 q0 q1))])) X41 (fun t k => st41 _ k) ?_
  refine OwnFin.step (g' := (mkF m 74 #[.val (.long q0), .second, .val (.long q1), .second, .val (.long q2), .second, .val (.long q3), .second, .val (.ref b1), .val (.ref b7), .val (.ref b13), .val (.ref b20), .val (.ref b28), .unset, .unset, .unset] [(.long ((r4 q0 q1) + (r4 q2 q3)))])) X41 (fun t k => XT.ladd X41.here hx rfl (hb hby at_73) rfl k) ?_
  refine OwnFin.step (g' := (mkF m 76 #[.val (.long q0), .second, .val (.long q1), .second, .val (.long q2), .second, .val (.long q3), .second, .val (.ref b1), .val (.ref b7), .val (.ref b13), .val (.ref b20), .val (.ref b28), .unset, .unset, .unset] [(.ref b13), (.long ((r4 q0 q1) + (r4 q2 q3)))])) X41 (fun t k => XS.aload X41.here hx rfl (hb hby at_74) rfl rfl k) ?_
  have F46 : Fld Z h32 b13 "com/example/slotd/slotd/calendar/Length" "days" "J" (.long (q0 + q2)) := ((((u18.keep K20 nin0).keep K23 (ninS ne_b13_b20 nin0)).keep K28 nin0).keep K32 (ninS ne_b13_b28 nin0))
  have F47 : Fld Z h32 b13 "com/example/slotd/slotd/calendar/Length" "seconds" "J" (.long (q1 + q3)) := ((((u19.keep K20 nin0).keep K23 (ninS ne_b13_b20 nin0)).keep K28 nin0).keep K32 (ninS ne_b13_b28 nin0))
  have E48 : Exa Z h32 b13 "com/example/slotd/slotd/calendar/Length" := (Exa.keep (Exa.keep E31 K28) K32)
  obtain ⟨_, T45, L45, X45, ⟨rfl, f45, N45q⟩, st45⟩ := own_callV X41 hx hZ (y := (⟨"com/example/slotd/slotd/calendar/Length", "longestSeconds", "()J"⟩ : MethodName)) (W := 2) (a := b13) (argsL := []) (rest := [(.long ((r4 q0 q1) + (r4 q2 q3)))]) hown (hw _ (List.mem_of_getElem? (i := 18) rfl)) (hw _ (List.mem_of_getElem? (i := 19) rfl)) (hw _ (List.mem_of_getElem? (i := 21) rfl)) (hw _ (List.mem_of_getElem? (i := 20) rfl)) (hw _ (List.mem_of_getElem? (i := 2) rfl)) (hw _ (List.mem_of_getElem? (i := 22) rfl)) (by decide) E48 (rm4 l Z a0 hw [] b13 (q0 + q2) (q1 + q3) h32 n0 Z32 F46 F47) (by decide) (by decide) (by decide) (by decide) f41 (g := (mkF m 76 #[.val (.long q0), .second, .val (.long q1), .second, .val (.long q2), .second, .val (.long q3), .second, .val (.ref b1), .val (.ref b7), .val (.ref b13), .val (.ref b20), .val (.ref b28), .unset, .unset, .unset] [(.ref b13), (.long ((r4 q0 q1) + (r4 q2 q3)))])) rfl (by rw [hml]; rfl) pd_2 rfl rfl (by show 2 * 0 + _ ≤ _; exact Nat.le_of_eq rfl) (hb hby at_76)
  have N45 := Fr.app N41 N45q
  refine OwnFin.step (g' := (mkF m 79 #[.val (.long q0), .second, .val (.long q1), .second, .val (.long q2), .second, .val (.long q3), .second, .val (.ref b1), .val (.ref b7), .val (.ref b13), .val (.ref b20), .val (.ref b28), .unset, .unset, .unset] [(.long (r4 (q0 + q2) (q1 + q3))), (.long ((r4 q0 q1) + (r4 q2 q3)))])) X45 (fun t k => st45 _ k) ?_
  refine OwnFin.step (g' := (mkF m 80 #[.val (.long q0), .second, .val (.long q1), .second, .val (.long q2), .second, .val (.long q3), .second, .val (.ref b1), .val (.ref b7), .val (.ref b13), .val (.ref b20), .val (.ref b28), .unset, .unset, .unset] [(.int (XT.cmpL ((r4 q0 q1) + (r4 q2 q3)) (r4 (q0 + q2) (q1 + q3))))])) X45 (fun t k => XT.lcmp X45.here hx rfl (hb hby at_79) rfl k) ?_
  refine OwnFin.step (g' := (mkF m 88 #[.val (.long q0), .second, .val (.long q1), .second, .val (.long q2), .second, .val (.long q3), .second, .val (.ref b1), .val (.ref b7), .val (.ref b13), .val (.ref b20), .val (.ref b28), .unset, .unset, .unset] [(.int (v0_88 q0 q1 q2 q3))])) X45 (fun t k => ?_) ?_
  · show Steps p.tables e below (T45.setTop (mkF m 80 #[.val (.long q0), .second, .val (.long q1), .second, .val (.long q2), .second, .val (.long q3), .second, .val (.ref b1), .val (.ref b7), .val (.ref b13), .val (.ref b20), .val (.ref b28), .unset, .unset, .unset] [(.int (XT.cmpL ((r4 q0 q1) + (r4 q2 q3)) (r4 (q0 + q2) (q1 + q3))))])) t
    by_cases hc49 : ((r4 q0 q1) + (r4 q2 q3)) = (r4 (q0 + q2) (q1 + q3))
    · skip
      refine XS.ifNo X45.here hx rfl (hb hby at_80) rfl ((if0 _ _).trans (teq ((cl_eq _ _).mpr hc49)).2) ?_
      show Steps p.tables e below (T45.setTop (mkF m 83 #[.val (.long q0), .second, .val (.long q1), .second, .val (.long q2), .second, .val (.long q3), .second, .val (.ref b1), .val (.ref b7), .val (.ref b13), .val (.ref b20), .val (.ref b28), .unset, .unset, .unset] [])) t
      refine XS.iconst X45.here hx rfl (hb hby at_83) ?_
      show Steps p.tables e below (T45.setTop (mkF m 84 #[.val (.long q0), .second, .val (.long q1), .second, .val (.long q2), .second, .val (.long q3), .second, .val (.ref b1), .val (.ref b7), .val (.ref b13), .val (.ref b20), .val (.ref b28), .unset, .unset, .unset] [(.int (1 : Int32))])) t
      refine XS.goto X45.here hx rfl (pc0 := 84) (pc' := 88) rfl (hb hby at_84) (by decide) (by decide) ?_
      show Steps p.tables e below (T45.setTop (mkF m 88 #[.val (.long q0), .second, .val (.long q1), .second, .val (.long q2), .second, .val (.long q3), .second, .val (.ref b1), .val (.ref b7), .val (.ref b13), .val (.ref b20), .val (.ref b28), .unset, .unset, .unset] [(.int (1 : Int32))])) t
      have q50 : (v0_88 q0 q1 q2 q3) = (1 : Int32) := by
        show (if ((r4 q0 q1) + (r4 q2 q3)) = (r4 (q0 + q2) (q1 + q3)) then (1 : Int32) else (0 : Int32)) = (1 : Int32)
        simp only [if_pos hc49]
      rw [q50] at k
      exact k
    · skip
      refine XS.ifYes X45.here hx rfl (pc0 := 80) (pc' := 87) rfl (hb hby at_80) rfl ((if0 _ _).trans (feq (fun q => hc49 ((cl_eq _ _).mp q))).2) (by decide) (by decide) ?_
      show Steps p.tables e below (T45.setTop (mkF m 87 #[.val (.long q0), .second, .val (.long q1), .second, .val (.long q2), .second, .val (.long q3), .second, .val (.ref b1), .val (.ref b7), .val (.ref b13), .val (.ref b20), .val (.ref b28), .unset, .unset, .unset] [])) t
      refine XS.iconst X45.here hx rfl (hb hby at_87) ?_
      show Steps p.tables e below (T45.setTop (mkF m 88 #[.val (.long q0), .second, .val (.long q1), .second, .val (.long q2), .second, .val (.long q3), .second, .val (.ref b1), .val (.ref b7), .val (.ref b13), .val (.ref b20), .val (.ref b28), .unset, .unset, .unset] [(.int (0 : Int32))])) t
      have q51 : (v0_88 q0 q1 q2 q3) = (0 : Int32) := by
        show (if ((r4 q0 q1) + (r4 q2 q3)) = (r4 (q0 + q2) (q1 + q3)) then (1 : Int32) else (0 : Int32)) = (0 : Int32)
        simp only [if_neg hc49]
      rw [q51] at k
      exact k
  refine OwnFin.step (g' := (mkF m 90 #[.val (.long q0), .second, .val (.long q1), .second, .val (.long q2), .second, .val (.long q3), .second, .val (.ref b1), .val (.ref b7), .val (.ref b13), .val (.ref b20), .val (.ref b28), .val (.int (v0_88 q0 q1 q2 q3)), .unset, .unset] [])) X45 (fun t k => XS.istore X45.here hx rfl (hb hby at_88) rfl (l' := #[.val (.long q0), .second, .val (.long q1), .second, .val (.long q2), .second, .val (.long q3), .second, .val (.ref b1), .val (.ref b7), .val (.ref b13), .val (.ref b20), .val (.ref b28), .val (.int (v0_88 q0 q1 q2 q3)), .unset, .unset]) rfl k) ?_
  refine OwnFin.step (g' := (mkF m 92 #[.val (.long q0), .second, .val (.long q1), .second, .val (.long q2), .second, .val (.long q3), .second, .val (.ref b1), .val (.ref b7), .val (.ref b13), .val (.ref b20), .val (.ref b28), .val (.int (v0_88 q0 q1 q2 q3)), .unset, .unset] [(.ref b20)])) X45 (fun t k => XS.aload X45.here hx rfl (hb hby at_90) rfl rfl k) ?_
  have F53 : Fld Z h32 b20 "com/example/slotd/slotd/calendar/Length" "days" "J" (.long (1 : Int64)) := ((u26.keep K28 nin0).keep K32 (ninS ne_b20_b28 nin0))
  have F54 : Fld Z h32 b20 "com/example/slotd/slotd/calendar/Length" "seconds" "J" (.long (0 : Int64)) := ((u27.keep K28 nin0).keep K32 (ninS ne_b20_b28 nin0))
  have E55 : Exa Z h32 b20 "com/example/slotd/slotd/calendar/Length" := (Exa.keep (Exa.keep u25 K28) K32)
  obtain ⟨_, T52, L52, X52, ⟨rfl, f52, N52q⟩, st52⟩ := own_callV X45 hx hZ (y := (⟨"com/example/slotd/slotd/calendar/Length", "longestSeconds", "()J"⟩ : MethodName)) (W := 0) (a := b20) (argsL := []) (rest := []) hown (hw _ (List.mem_of_getElem? (i := 18) rfl)) (hw _ (List.mem_of_getElem? (i := 19) rfl)) (hw _ (List.mem_of_getElem? (i := 21) rfl)) (hw _ (List.mem_of_getElem? (i := 20) rfl)) (hw _ (List.mem_of_getElem? (i := 2) rfl)) (hw _ (List.mem_of_getElem? (i := 22) rfl)) (by decide) E55 (rm4 l Z a0 hw [] b20 (1 : Int64) (0 : Int64) h32 n0 Z32 F53 F54) (by decide) (by decide) (by decide) (by decide) f45 (g := (mkF m 92 #[.val (.long q0), .second, .val (.long q1), .second, .val (.long q2), .second, .val (.long q3), .second, .val (.ref b1), .val (.ref b7), .val (.ref b13), .val (.ref b20), .val (.ref b28), .val (.int (v0_88 q0 q1 q2 q3)), .unset, .unset] [(.ref b20)])) rfl (by rw [hml]; rfl) pd_2 rfl rfl (by show 2 * 0 + _ ≤ _; exact Nat.le_of_eq rfl) (hb hby at_92)
  have N52 := Fr.app N45 N52q
  refine OwnFin.step (g' := (mkF m 95 #[.val (.long q0), .second, .val (.long q1), .second, .val (.long q2), .second, .val (.long q3), .second, .val (.ref b1), .val (.ref b7), .val (.ref b13), .val (.ref b20), .val (.ref b28), .val (.int (v0_88 q0 q1 q2 q3)), .unset, .unset] [(.long (r4 (1 : Int64) (0 : Int64)))])) X52 (fun t k => st52 _ k) ?_
  refine OwnFin.step (g' := (mkF m 98 #[.val (.long q0), .second, .val (.long q1), .second, .val (.long q2), .second, .val (.long q3), .second, .val (.ref b1), .val (.ref b7), .val (.ref b13), .val (.ref b20), .val (.ref b28), .val (.int (v0_88 q0 q1 q2 q3)), .unset, .unset] [(.long (129600 : Int64)), (.long (r4 (1 : Int64) (0 : Int64)))])) X52 (fun t k => X52.ldc2Long hx hown (mvT hZ (hw _ (List.mem_of_getElem? (i := 24) rfl))) (g := (mkF m 95 #[.val (.long q0), .second, .val (.long q1), .second, .val (.long q2), .second, .val (.long q3), .second, .val (.ref b1), .val (.ref b7), .val (.ref b13), .val (.ref b20), .val (.ref b28), .val (.int (v0_88 q0 q1 q2 q3)), .unset, .unset] [(.long (r4 (1 : Int64) (0 : Int64)))])) rfl (hb hby at_95) _ k) ?_
  refine OwnFin.step (g' := (mkF m 99 #[.val (.long q0), .second, .val (.long q1), .second, .val (.long q2), .second, .val (.long q3), .second, .val (.ref b1), .val (.ref b7), .val (.ref b13), .val (.ref b20), .val (.ref b28), .val (.int (v0_88 q0 q1 q2 q3)), .unset, .unset] [(.int (XT.cmpL (r4 (1 : Int64) (0 : Int64)) (129600 : Int64)))])) X52 (fun t k => XT.lcmp X52.here hx rfl (hb hby at_98) rfl k) ?_
  refine OwnFin.step (g' := (mkF m 107 #[.val (.long q0), .second, .val (.long q1), .second, .val (.long q2), .second, .val (.long q3), .second, .val (.ref b1), .val (.ref b7), .val (.ref b13), .val (.ref b20), .val (.ref b28), .val (.int (v0_88 q0 q1 q2 q3)), .unset, .unset] [(.int v0_107)])) X52 (fun t k => ?_) ?_
  · show Steps p.tables e below (T52.setTop (mkF m 99 #[.val (.long q0), .second, .val (.long q1), .second, .val (.long q2), .second, .val (.long q3), .second, .val (.ref b1), .val (.ref b7), .val (.ref b13), .val (.ref b20), .val (.ref b28), .val (.int (v0_88 q0 q1 q2 q3)), .unset, .unset] [(.int (XT.cmpL (r4 (1 : Int64) (0 : Int64)) (129600 : Int64)))])) t
    by_cases hc56 : (r4 (1 : Int64) (0 : Int64)) = (129600 : Int64)
    · skip
      refine XS.ifNo X52.here hx rfl (hb hby at_99) rfl ((if0 _ _).trans (teq ((cl_eq _ _).mpr hc56)).2) ?_
      show Steps p.tables e below (T52.setTop (mkF m 102 #[.val (.long q0), .second, .val (.long q1), .second, .val (.long q2), .second, .val (.long q3), .second, .val (.ref b1), .val (.ref b7), .val (.ref b13), .val (.ref b20), .val (.ref b28), .val (.int (v0_88 q0 q1 q2 q3)), .unset, .unset] [])) t
      refine XS.iconst X52.here hx rfl (hb hby at_102) ?_
      show Steps p.tables e below (T52.setTop (mkF m 103 #[.val (.long q0), .second, .val (.long q1), .second, .val (.long q2), .second, .val (.long q3), .second, .val (.ref b1), .val (.ref b7), .val (.ref b13), .val (.ref b20), .val (.ref b28), .val (.int (v0_88 q0 q1 q2 q3)), .unset, .unset] [(.int (1 : Int32))])) t
      refine XS.goto X52.here hx rfl (pc0 := 103) (pc' := 107) rfl (hb hby at_103) (by decide) (by decide) ?_
      show Steps p.tables e below (T52.setTop (mkF m 107 #[.val (.long q0), .second, .val (.long q1), .second, .val (.long q2), .second, .val (.long q3), .second, .val (.ref b1), .val (.ref b7), .val (.ref b13), .val (.ref b20), .val (.ref b28), .val (.int (v0_88 q0 q1 q2 q3)), .unset, .unset] [(.int (1 : Int32))])) t
      have q57 : v0_107 = (1 : Int32) := by
        show (if (r4 (1 : Int64) (0 : Int64)) = (129600 : Int64) then (1 : Int32) else (0 : Int32)) = (1 : Int32)
        simp only [if_pos hc56]
      rw [q57] at k
      exact k
    · skip
      refine XS.ifYes X52.here hx rfl (pc0 := 99) (pc' := 106) rfl (hb hby at_99) rfl ((if0 _ _).trans (feq (fun q => hc56 ((cl_eq _ _).mp q))).2) (by decide) (by decide) ?_
      show Steps p.tables e below (T52.setTop (mkF m 106 #[.val (.long q0), .second, .val (.long q1), .second, .val (.long q2), .second, .val (.long q3), .second, .val (.ref b1), .val (.ref b7), .val (.ref b13), .val (.ref b20), .val (.ref b28), .val (.int (v0_88 q0 q1 q2 q3)), .unset, .unset] [])) t
      refine XS.iconst X52.here hx rfl (hb hby at_106) ?_
      show Steps p.tables e below (T52.setTop (mkF m 107 #[.val (.long q0), .second, .val (.long q1), .second, .val (.long q2), .second, .val (.long q3), .second, .val (.ref b1), .val (.ref b7), .val (.ref b13), .val (.ref b20), .val (.ref b28), .val (.int (v0_88 q0 q1 q2 q3)), .unset, .unset] [(.int (0 : Int32))])) t
      have q58 : v0_107 = (0 : Int32) := by
        show (if (r4 (1 : Int64) (0 : Int64)) = (129600 : Int64) then (1 : Int32) else (0 : Int32)) = (0 : Int32)
        simp only [if_neg hc56]
      rw [q58] at k
      exact k
  refine OwnFin.step (g' := (mkF m 109 #[.val (.long q0), .second, .val (.long q1), .second, .val (.long q2), .second, .val (.long q3), .second, .val (.ref b1), .val (.ref b7), .val (.ref b13), .val (.ref b20), .val (.ref b28), .val (.int (v0_88 q0 q1 q2 q3)), .val (.int v0_107), .unset] [])) X52 (fun t k => XS.istore X52.here hx rfl (hb hby at_107) rfl (l' := #[.val (.long q0), .second, .val (.long q1), .second, .val (.long q2), .second, .val (.long q3), .second, .val (.ref b1), .val (.ref b7), .val (.ref b13), .val (.ref b20), .val (.ref b28), .val (.int (v0_88 q0 q1 q2 q3)), .val (.int v0_107), .unset]) rfl k) ?_
  refine OwnFin.step (g' := (mkF m 111 #[.val (.long q0), .second, .val (.long q1), .second, .val (.long q2), .second, .val (.long q3), .second, .val (.ref b1), .val (.ref b7), .val (.ref b13), .val (.ref b20), .val (.ref b28), .val (.int (v0_88 q0 q1 q2 q3)), .val (.int v0_107), .unset] [(.ref b28)])) X52 (fun t k => XS.aload X52.here hx rfl (hb hby at_109) rfl rfl k) ?_
  obtain ⟨_, T59, L59, X59, ⟨rfl, f59, N59q⟩, st59⟩ := own_callV X52 hx hZ (y := (⟨"com/example/slotd/slotd/calendar/Length", "longestSeconds", "()J"⟩ : MethodName)) (W := 0) (a := b28) (argsL := []) (rest := []) hown (hw _ (List.mem_of_getElem? (i := 18) rfl)) (hw _ (List.mem_of_getElem? (i := 19) rfl)) (hw _ (List.mem_of_getElem? (i := 21) rfl)) (hw _ (List.mem_of_getElem? (i := 20) rfl)) (hw _ (List.mem_of_getElem? (i := 2) rfl)) (hw _ (List.mem_of_getElem? (i := 22) rfl)) (by decide) u34 (rm4 l Z a0 hw [] b28 (0 : Int64) q1 h32 n0 Z32 u35 u36) (by decide) (by decide) (by decide) (by decide) f52 (g := (mkF m 111 #[.val (.long q0), .second, .val (.long q1), .second, .val (.long q2), .second, .val (.long q3), .second, .val (.ref b1), .val (.ref b7), .val (.ref b13), .val (.ref b20), .val (.ref b28), .val (.int (v0_88 q0 q1 q2 q3)), .val (.int v0_107), .unset] [(.ref b28)])) rfl (by rw [hml]; rfl) pd_2 rfl rfl (by show 2 * 0 + _ ≤ _; exact Nat.le_of_eq rfl) (hb hby at_111)
  have N59 := Fr.app N52 N59q
  refine OwnFin.step (g' := (mkF m 114 #[.val (.long q0), .second, .val (.long q1), .second, .val (.long q2), .second, .val (.long q3), .second, .val (.ref b1), .val (.ref b7), .val (.ref b13), .val (.ref b20), .val (.ref b28), .val (.int (v0_88 q0 q1 q2 q3)), .val (.int v0_107), .unset] [(.long (r4 (0 : Int64) q1))])) X59 (fun t k => st59 _ k) ?_
  refine OwnFin.step (g' := (mkF m 115 #[.val (.long q0), .second, .val (.long q1), .second, .val (.long q2), .second, .val (.long q3), .second, .val (.ref b1), .val (.ref b7), .val (.ref b13), .val (.ref b20), .val (.ref b28), .val (.int (v0_88 q0 q1 q2 q3)), .val (.int v0_107), .unset] [(.long q1), (.long (r4 (0 : Int64) q1))])) X59 (fun t k => XT.lloadN X59.here hx rfl (hb hby at_114) rfl k) ?_
  refine OwnFin.step (g' := (mkF m 116 #[.val (.long q0), .second, .val (.long q1), .second, .val (.long q2), .second, .val (.long q3), .second, .val (.ref b1), .val (.ref b7), .val (.ref b13), .val (.ref b20), .val (.ref b28), .val (.int (v0_88 q0 q1 q2 q3)), .val (.int v0_107), .unset] [(.int (XT.cmpL (r4 (0 : Int64) q1) q1))])) X59 (fun t k => XT.lcmp X59.here hx rfl (hb hby at_115) rfl k) ?_
  refine OwnFin.step (g' := (mkF m 124 #[.val (.long q0), .second, .val (.long q1), .second, .val (.long q2), .second, .val (.long q3), .second, .val (.ref b1), .val (.ref b7), .val (.ref b13), .val (.ref b20), .val (.ref b28), .val (.int (v0_88 q0 q1 q2 q3)), .val (.int v0_107), .unset] [(.int (v0_124 q1))])) X59 (fun t k => ?_) ?_
  · show Steps p.tables e below (T59.setTop (mkF m 116 #[.val (.long q0), .second, .val (.long q1), .second, .val (.long q2), .second, .val (.long q3), .second, .val (.ref b1), .val (.ref b7), .val (.ref b13), .val (.ref b20), .val (.ref b28), .val (.int (v0_88 q0 q1 q2 q3)), .val (.int v0_107), .unset] [(.int (XT.cmpL (r4 (0 : Int64) q1) q1))])) t
    by_cases hc60 : (r4 (0 : Int64) q1) = q1
    · skip
      refine XS.ifNo X59.here hx rfl (hb hby at_116) rfl ((if0 _ _).trans (teq ((cl_eq _ _).mpr hc60)).2) ?_
      show Steps p.tables e below (T59.setTop (mkF m 119 #[.val (.long q0), .second, .val (.long q1), .second, .val (.long q2), .second, .val (.long q3), .second, .val (.ref b1), .val (.ref b7), .val (.ref b13), .val (.ref b20), .val (.ref b28), .val (.int (v0_88 q0 q1 q2 q3)), .val (.int v0_107), .unset] [])) t
      refine XS.iconst X59.here hx rfl (hb hby at_119) ?_
      show Steps p.tables e below (T59.setTop (mkF m 120 #[.val (.long q0), .second, .val (.long q1), .second, .val (.long q2), .second, .val (.long q3), .second, .val (.ref b1), .val (.ref b7), .val (.ref b13), .val (.ref b20), .val (.ref b28), .val (.int (v0_88 q0 q1 q2 q3)), .val (.int v0_107), .unset] [(.int (1 : Int32))])) t
      refine XS.goto X59.here hx rfl (pc0 := 120) (pc' := 124) rfl (hb hby at_120) (by decide) (by decide) ?_
      show Steps p.tables e below (T59.setTop (mkF m 124 #[.val (.long q0), .second, .val (.long q1), .second, .val (.long q2), .second, .val (.long q3), .second, .val (.ref b1), .val (.ref b7), .val (.ref b13), .val (.ref b20), .val (.ref b28), .val (.int (v0_88 q0 q1 q2 q3)), .val (.int v0_107), .unset] [(.int (1 : Int32))])) t
      have q61 : (v0_124 q1) = (1 : Int32) := by
        show (if (r4 (0 : Int64) q1) = q1 then (1 : Int32) else (0 : Int32)) = (1 : Int32)
        simp only [if_pos hc60]
      rw [q61] at k
      exact k
    · skip
      refine XS.ifYes X59.here hx rfl (pc0 := 116) (pc' := 123) rfl (hb hby at_116) rfl ((if0 _ _).trans (feq (fun q => hc60 ((cl_eq _ _).mp q))).2) (by decide) (by decide) ?_
      show Steps p.tables e below (T59.setTop (mkF m 123 #[.val (.long q0), .second, .val (.long q1), .second, .val (.long q2), .second, .val (.long q3), .second, .val (.ref b1), .val (.ref b7), .val (.ref b13), .val (.ref b20), .val (.ref b28), .val (.int (v0_88 q0 q1 q2 q3)), .val (.int v0_107), .unset] [])) t
      refine XS.iconst X59.here hx rfl (hb hby at_123) ?_
      show Steps p.tables e below (T59.setTop (mkF m 124 #[.val (.long q0), .second, .val (.long q1), .second, .val (.long q2), .second, .val (.long q3), .second, .val (.ref b1), .val (.ref b7), .val (.ref b13), .val (.ref b20), .val (.ref b28), .val (.int (v0_88 q0 q1 q2 q3)), .val (.int v0_107), .unset] [(.int (0 : Int32))])) t
      have q62 : (v0_124 q1) = (0 : Int32) := by
        show (if (r4 (0 : Int64) q1) = q1 then (1 : Int32) else (0 : Int32)) = (0 : Int32)
        simp only [if_neg hc60]
      rw [q62] at k
      exact k
  refine OwnFin.step (g' := (mkF m 126 #[.val (.long q0), .second, .val (.long q1), .second, .val (.long q2), .second, .val (.long q3), .second, .val (.ref b1), .val (.ref b7), .val (.ref b13), .val (.ref b20), .val (.ref b28), .val (.int (v0_88 q0 q1 q2 q3)), .val (.int v0_107), .val (.int (v0_124 q1))] [])) X59 (fun t k => XS.istore X59.here hx rfl (hb hby at_124) rfl (l' := #[.val (.long q0), .second, .val (.long q1), .second, .val (.long q2), .second, .val (.long q3), .second, .val (.ref b1), .val (.ref b7), .val (.ref b13), .val (.ref b20), .val (.ref b28), .val (.int (v0_88 q0 q1 q2 q3)), .val (.int v0_107), .val (.int (v0_124 q1))]) rfl k) ?_
  refine OwnFin.step (g' := (mkF m 128 #[.val (.long q0), .second, .val (.long q1), .second, .val (.long q2), .second, .val (.long q3), .second, .val (.ref b1), .val (.ref b7), .val (.ref b13), .val (.ref b20), .val (.ref b28), .val (.int (v0_88 q0 q1 q2 q3)), .val (.int v0_107), .val (.int (v0_124 q1))] [(.int (v0_88 q0 q1 q2 q3))])) X59 (fun t k => XS.iload X59.here hx rfl (hb hby at_126) rfl k) ?_
  refine OwnFin.step (g' := (mkF m 131 #[.val (.long q0), .second, .val (.long q1), .second, .val (.long q2), .second, .val (.long q3), .second, .val (.ref b1), .val (.ref b7), .val (.ref b13), .val (.ref b20), .val (.ref b28), .val (.int (v0_88 q0 q1 q2 q3)), .val (.int v0_107), .val (.int (v0_124 q1))] [])) X59 (fun t k => XS.ifNo X59.here hx rfl (hb hby at_128) rfl ((if0 _ _).trans (feq (br0_128 q0 q1 q2 q3)).1) k) ?_
  refine OwnFin.step (g' := (mkF m 133 #[.val (.long q0), .second, .val (.long q1), .second, .val (.long q2), .second, .val (.long q3), .second, .val (.ref b1), .val (.ref b7), .val (.ref b13), .val (.ref b20), .val (.ref b28), .val (.int (v0_88 q0 q1 q2 q3)), .val (.int v0_107), .val (.int (v0_124 q1))] [(.int v0_107)])) X59 (fun t k => XS.iload X59.here hx rfl (hb hby at_131) rfl k) ?_
  refine OwnFin.step (g' := (mkF m 136 #[.val (.long q0), .second, .val (.long q1), .second, .val (.long q2), .second, .val (.long q3), .second, .val (.ref b1), .val (.ref b7), .val (.ref b13), .val (.ref b20), .val (.ref b28), .val (.int (v0_88 q0 q1 q2 q3)), .val (.int v0_107), .val (.int (v0_124 q1))] [])) X59 (fun t k => XS.ifNo X59.here hx rfl (hb hby at_133) rfl ((if0 _ _).trans (feq (br0_133)).1) k) ?_
  refine OwnFin.step (g' := (mkF m 138 #[.val (.long q0), .second, .val (.long q1), .second, .val (.long q2), .second, .val (.long q3), .second, .val (.ref b1), .val (.ref b7), .val (.ref b13), .val (.ref b20), .val (.ref b28), .val (.int (v0_88 q0 q1 q2 q3)), .val (.int v0_107), .val (.int (v0_124 q1))] [(.int (v0_124 q1))])) X59 (fun t k => XS.iload X59.here hx rfl (hb hby at_136) rfl k) ?_
  refine OwnFin.step (g' := (mkF m 141 #[.val (.long q0), .second, .val (.long q1), .second, .val (.long q2), .second, .val (.long q3), .second, .val (.ref b1), .val (.ref b7), .val (.ref b13), .val (.ref b20), .val (.ref b28), .val (.int (v0_88 q0 q1 q2 q3)), .val (.int v0_107), .val (.int (v0_124 q1))] [])) X59 (fun t k => XS.ifNo X59.here hx rfl (hb hby at_138) rfl ((if0 _ _).trans (feq (br0_138 q1)).1) k) ?_
  refine OwnFin.step (g' := (mkF m 142 #[.val (.long q0), .second, .val (.long q1), .second, .val (.long q2), .second, .val (.long q3), .second, .val (.ref b1), .val (.ref b7), .val (.ref b13), .val (.ref b20), .val (.ref b28), .val (.int (v0_88 q0 q1 q2 q3)), .val (.int v0_107), .val (.int (v0_124 q1))] [(.int (1 : Int32))])) X59 (fun t k => XS.iconst X59.here hx rfl (hb hby at_141) k) ?_
  refine OwnFin.step (g' := (mkF m 146 #[.val (.long q0), .second, .val (.long q1), .second, .val (.long q2), .second, .val (.long q3), .second, .val (.ref b1), .val (.ref b7), .val (.ref b13), .val (.ref b20), .val (.ref b28), .val (.int (v0_88 q0 q1 q2 q3)), .val (.int v0_107), .val (.int (v0_124 q1))] [(.int (1 : Int32))])) X59 (fun t k => XS.goto X59.here hx rfl (pc0 := 142) (pc' := 146) rfl (hb hby at_142) (by decide) (by decide) k) ?_
  refine OwnFin.retNar X59 (by simp) (hb hby at_146) (by decide) (by decide) ?_
  exact ⟨rfl, N59⟩
set_option maxRecDepth 65536 in
set_option maxHeartbeats 40000000 in
theorem rm0 (l : Launch) (Z : State) (a0 : Array Value) (hw : ∀ d ∈ tables_1, d.before a0 Z = true) (ws : List Jvm.Cond) (q0 : Int64) (q1 : Int64) (q2 : Int64) (q3 : Int64) (h0 : Heap) (n0 : Nat) (Z0 : n0 ≤ h0.size) :
    MetFree l x (head1 (Jvm.Cond.code x code maxLocals ret :: ws) room_1) (fun a U => a = #[(.long q0), (.long q1), (.long q2), (.long q3)] ∧ Z.Warmed39 U.vm ∧ U.heap = h0) (fun _ _ _ _ _ => True) (fun _ U o U' => ∃ v L, o = .returned v ∧ (LQ n0) v U'.heap L ∧ FrameEnd U o U' L room_1.cells room_1.slots) :=
  own_met (ret := ret) (Q := (LQ n0)) (plainFor_of_name pn_0) (fun m => ef_0 m q0 q1 q2 q3) (fun p e s m below meth c s₁ X hx hby hml hown hnm hZ e0 => j0 X hx hZ hw hby hml hown hnm e0 (Fr.nil n0) Z0 q0 q1 q2 q3)
set_option maxRecDepth 65536 in
set_option maxHeartbeats 40000000 in
theorem comes_1 {Post : Tables → Env → Array Value → State → Outcome → State → Prop} (hpost : ∀ tb e args s v u, (limb_1_1.after args s (.returned v) u = true ∧ limb_1_2.after args s (.returned v) u = true ∧ True) → FrameEnd s (.returned v) u (Jvm.fieldLocs frame_1_writes args s ++ Jvm.arrayLocs frame_1_arrays args s ++ Jvm.staticLocs frame_1_statics s) 24 128 → Post tb e args s (.returned v) u) :
    ArmFor flags0 classFile x code maxLocals ret World_1 tables_1 room_1 Calls_1 rest_1 Pre_1 Post := by
  intro l hfl _ _ p e ha hc hk s m args below hf hA hF happ hP
  obtain ⟨hcalls, hrest, hpre⟩ := hP
  obtain ⟨-, -, -, hnamed, -, -, -, hat⟩ := (Spec.applies_iff hf).mp happ
  obtain ⟨hg, hn⟩ := and_e (Cond.before_iff.mp (show (Jvm.Cond.and given_1 narrow_1).before args s = true from hpre))
  obtain ⟨g1, g2⟩ := and_e hg
  obtain ⟨g3, g4⟩ := and_e g2
  obtain ⟨g5, g6⟩ := and_e g4
  obtain ⟨g7, g8⟩ := and_e g6
  obtain ⟨w0, w1, w2, w3, rfl⟩ : ∃ w0 w1 w2 w3 : Value, args = #[w0, w1, w2, w3] := by
    have hs : args.size = 4 := by simpa [Cond.value, given_1] using g1
    obtain ⟨L⟩ := args
    match L, hs with
    | [w0, w1, w2, w3], _ => exact ⟨w0, w1, w2, w3, rfl⟩
  have hw := fun d (hd : d ∈ tables_1) => atoms_spec (ws := Jvm.Cond.code x code maxLocals ret :: tables_1) hat d (List.mem_cons_of_mem _ hd)
  obtain ⟨i0, ei0⟩ := isL_v g3
  obtain rfl : w0 = (.long i0) := Option.some.inj ei0
  obtain ⟨i1, ei1⟩ := isL_v g5
  obtain rfl : w1 = (.long i1) := Option.some.inj ei1
  obtain ⟨i2, ei2⟩ := isL_v g7
  obtain rfl : w2 = (.long i2) := Option.some.inj ei2
  obtain ⟨i3, ei3⟩ := isL_v g8
  obtain rfl : w3 = (.long i3) := Option.some.inj ei3
  obtain ⟨n, o, h1, h2, h3, _, L, rfl, ⟨rfl, N⟩, hq⟩ := rm0 l s _ hw tables_1 i0 i1 i2 i3 s.heap s.heap.size (Nat.le_refl _) p e ha hc hk s m _ below hf ((Spec.applies_iff_loose hf).mp happ).1 ⟨rfl, State.Warmed39.refl s, rfl⟩ trivial
  refine ⟨n, _, h1, h2, h3, hpost _ _ _ _ _ _ ⟨Cond.after_iff.mpr rfl, Cond.after_iff.mpr (eq_i res_at (Term.int_eval (1)) rfl), trivial⟩ ⟨hq.1, hq.2.1, (hq.2.2.sift fun y hy => Or.inr (N y hy)).mono (by decide) (by decide)⟩⟩
theorem main_1_1 : Claimed_1_1 := comes_1 fun _ _ _ _ _ _ h hF => ⟨h.1, hF⟩
theorem main_1_2 : Claimed_1_2 := comes_1 fun _ _ _ _ _ _ h hF => ⟨h.2.1, hF⟩
end Jvm.Pilot.@@N@@
namespace Jvm.Pilot.@@N@@
open Jvm Jvm.ClassFile Sem Op Lib Jvm.Free Jvm.Stand Jvm.Pilot.@@N@@.Jvm.D
/-! MADE BY PROGRAM (witnessworld.py) out of the Statement's table words and the real class files: 10 classes; the members and pool entries that the words name. The judged class is class 1, her method 1. -/
namespace start1
open Jvm.ClassFile
def u (s : String) : CpInfo := .utf8 (stringToUtf16 s)
/-- a pool by its gaps: so many unusable entries, then the entry; so many at the end -/
def gap : Nat → List CpInfo → List CpInfo
  | 0, r => r
  | n + 1, r => .unusable :: gap n r
def poolList (es : List (Nat × CpInfo)) (last : Nat) : List CpInfo := es.foldr (fun e r => gap e.1 (e.2 :: r)) (gap last [])
def pool (es : List (Nat × CpInfo)) (last : Nat) : Array CpInfo := ⟨poolList es last⟩
def fileOf (pool : Array CpInfo) (this : Nat) (attrs : Array Attribute := #[]) (ms : Array MethodInfo := #[]) (fl : Nat := 33) (sup : Nat := 0) (ifs : Array Nat := #[]) (fds : Array FieldInfo := #[]) : ClassFile where
  minorVersion := 0
  majorVersion := 65
  constantPool := pool
  accessFlags := fl
  thisClass := this
  superClass := sup
  interfaces := ifs
  fields := fds
  methods := ms
  attributes := attrs
def plain (name : String) (sup : Option ClassId) : Class where
  name := name
  kind := .ordinary
  loader := none
  accessFlags := 33
  super := sup
  interfaces := #[]
  cf := none
  fields := #[]
  methods := #[]
  instanceTypes := #[]
  staticTypes := #[]
  resolved := #[]
  callSites := []
  init := .initialized
  statics := none
  mirror := none

def pool0 : Array CpInfo := pool [(5, u "<init>"), (0, u "()V"), (1, .class_ 10), (1, u "java/lang/Object")] 113

def k0c0 : Code := { maxStack := 0, maxLocals := 1, code := object_method_1_code, exceptionTable := #[], attributes := #[] }
def k0m0 : Method := { name := "<init>", desc := "()V", sig := { parameters := [], returnType := none }, accessFlags := 1, code := some k0c0 }
/-- java/lang/Object -/
def k0 : Class := { plain "java/lang/Object" none with
  accessFlags := 33
  interfaces := #[]
  cf := some (fileOf pool0 8 #[] #[{ accessFlags := 1, nameIndex := 5, descriptorIndex := 6, attributes := #[] }] 33 0 #[] #[])
  fields := #[]
  methods := #[k0m0]
  instanceTypes := #[]
  staticTypes := #[]
  resolved := Array.replicate 124 none
  statics := none }

def pool1 : Array CpInfo := pool [(2, .class_ 4), (1, u "java/lang/Object"), (0, u "<init>"), (0, u "()V"), (0, .class_ 8), (0, u "com/example/slotd/slotd/calendar/Length"), (0, .methodref 7 10), (0, .nameAndType 5 11), (0, u "(JJ)V"), (0, .methodref 7 13), (0, .nameAndType 14 15), (0, u "longestSeconds"), (0, u "()J"), (0, .long 129600), (1, .class_ 19), (0, u "com/example/slotd/slotd/calendar/LengthLongestSecondsPinLaw"), (2, u "law"), (0, u "(JJJJ)Z")] 3

def k1m0 : Method := { name := "<init>", desc := "()V", sig := { parameters := [], returnType := none }, accessFlags := 1, code := none }
def k1c1 : Code := { maxStack := 8, maxLocals := 16, code := code, exceptionTable := #[], attributes := #[] }
def k1m1 : Method := { name := "law", desc := "(JJJJ)Z", sig := { parameters := [.long, .long, .long, .long], returnType := some .boolean }, accessFlags := 9, code := some k1c1 }
/-- com/example/slotd/slotd/calendar/LengthLongestSecondsPinLaw -/
def k1 : Class := { plain "com/example/slotd/slotd/calendar/LengthLongestSecondsPinLaw" (some 0) with
  accessFlags := 49
  interfaces := #[]
  cf := some (fileOf pool1 18 #[] #[{ accessFlags := 1, nameIndex := 5, descriptorIndex := 6, attributes := #[] }, { accessFlags := 9, nameIndex := 22, descriptorIndex := 23, attributes := #[] }] 49 2 #[] #[])
  fields := #[]
  methods := #[k1m0, k1m1]
  instanceTypes := #[]
  staticTypes := #[]
  resolved := Array.replicate 27 none
  statics := none }

def pool2 : Array CpInfo := pool [(1, .methodref 2 3), (0, .class_ 4), (0, .nameAndType 5 6), (0, u "java/lang/Object"), (0, u "<init>"), (0, u "()V"), (0, .class_ 8), (0, u "java/lang/Record")] 13

def k2c0 : Code := { maxStack := 1, maxLocals := 1, code := jdk_30_method_1_code, exceptionTable := #[], attributes := #[] }
def k2m0 : Method := { name := "<init>", desc := "()V", sig := { parameters := [], returnType := none }, accessFlags := 4, code := some k2c0 }
/-- java/lang/Record -/
def k2 : Class := { plain "java/lang/Record" (some 0) with
  accessFlags := 1057
  interfaces := #[]
  cf := some (fileOf pool2 7 #[] #[{ accessFlags := 4, nameIndex := 5, descriptorIndex := 6, attributes := #[] }] 1057 2 #[] #[])
  fields := #[]
  methods := #[k2m0]
  instanceTypes := #[]
  staticTypes := #[]
  resolved := Array.replicate 22 none
  statics := none }

def pool3 : Array CpInfo := pool [(3, .methodref 4 5), (0, .class_ 6), (0, .nameAndType 7 8), (0, u "java/lang/Record"), (0, u "<init>"), (0, u "()V"), (0, .fieldref 10 11), (0, .class_ 12), (0, .nameAndType 13 14), (0, u "com/example/slotd/slotd/calendar/Length"), (0, u "days"), (0, u "J"), (0, .fieldref 10 16), (0, .nameAndType 17 14), (0, u "seconds"), (0, .long 129600), (15, u "(JJ)V"), (2, u "NONE"), (0, u "Lcom/example/slotd/slotd/calendar/Length;"), (0, u "LONGEST_DAY"), (7, u "longestSeconds"), (0, u "()J")] 25

def k3c0 : Code := { maxStack := 3, maxLocals := 5, code := prog_65_method_1_code, exceptionTable := #[], attributes := #[] }
def k3m0 : Method := { name := "<init>", desc := "(JJ)V", sig := { parameters := [.long, .long], returnType := none }, accessFlags := 0, code := some k3c0 }
def k3c1 : Code := { maxStack := 4, maxLocals := 1, code := prog_65_method_3_code, exceptionTable := #[], attributes := #[] }
def k3m1 : Method := { name := "longestSeconds", desc := "()J", sig := { parameters := [], returnType := some .long }, accessFlags := 0, code := some k3c1 }
/-- com/example/slotd/slotd/calendar/Length -/
def k3 : Class := { plain "com/example/slotd/slotd/calendar/Length" (some 2) with
  accessFlags := 48
  interfaces := #[]
  cf := some (fileOf pool3 10 #[] #[{ accessFlags := 0, nameIndex := 7, descriptorIndex := 34, attributes := #[] }, { accessFlags := 0, nameIndex := 47, descriptorIndex := 48, attributes := #[] }] 48 4 #[] #[{ accessFlags := 18, nameIndex := 13, descriptorIndex := 14, attributes := #[] }, { accessFlags := 18, nameIndex := 17, descriptorIndex := 14, attributes := #[] }, { accessFlags := 26, nameIndex := 39, descriptorIndex := 14, attributes := #[] }, { accessFlags := 24, nameIndex := 37, descriptorIndex := 38, attributes := #[] }])
  fields := #[{ name := "days", type := .long, accessFlags := 18, slot := 0, constantValue := 0 }, { name := "seconds", type := .long, accessFlags := 18, slot := 1, constantValue := 0 }, { name := "LONGEST_DAY", type := .long, accessFlags := 26, slot := 0, constantValue := 0 }, { name := "NONE", type := (.object "com/example/slotd/slotd/calendar/Length"), accessFlags := 24, slot := 1, constantValue := 0 }]
  methods := #[k3m0, k3m1]
  instanceTypes := #[.long, .long]
  staticTypes := #[.long, (.object "com/example/slotd/slotd/calendar/Length")]
  resolved := Array.replicate 74 none
  statics := none }

def pool4 : Array CpInfo := pool [(1, u "java/lang/Cloneable"), (0, .class_ 1), (0, u "java/lang/Object"), (0, .class_ 3)] 3

/-- java/lang/Cloneable -/
def k4 : Class := { plain "java/lang/Cloneable" (some 0) with
  accessFlags := 1537
  interfaces := #[]
  cf := some (fileOf pool4 2 #[] #[] 1537 4 #[] #[])
  fields := #[]
  methods := #[]
  instanceTypes := #[]
  staticTypes := #[]
  resolved := Array.replicate 8 none
  statics := none }

def pool5 : Array CpInfo := pool [(1, u "java/io/Serializable"), (0, .class_ 1), (0, u "java/lang/Object"), (0, .class_ 3)] 3

/-- java/io/Serializable -/
def k5 : Class := { plain "java/io/Serializable" (some 0) with
  accessFlags := 1537
  interfaces := #[]
  cf := some (fileOf pool5 2 #[] #[] 1537 4 #[] #[])
  fields := #[]
  methods := #[]
  instanceTypes := #[]
  staticTypes := #[]
  resolved := Array.replicate 8 none
  statics := none }

/-- the primitive byte -/
def k6 : Class := { plain "byte" none with kind := .primitive 'B', accessFlags := 0x411 }
/-- [B -/
def k7 : Class := { plain "[B" (some 0) with kind := .array 6 .byte, interfaces := #[4, 5], accessFlags := 1041 }

/-- the primitive int -/
def k8 : Class := { plain "int" none with kind := .primitive 'I', accessFlags := 0x411 }
/-- [I -/
def k9 : Class := { plain "[I" (some 0) with kind := .array 8 .int, interfaces := #[4, 5], accessFlags := 1041 }

def heap : Heap := #[]
def classes : Array Class := #[k0, k1, k2, k3, k4, k5, k6, k7, k8, k9]
def interned : List (Array UInt16 × Addr) := []
def slotsUsed : Nat := 0
def theMethod : MethodId := ⟨1, 1⟩
def args0 : Array Value := #[.long 5, .long 6, .long 7, .long 8]
def aboutOver (below : List Frame) : State where
  vm := { classes := classes, interned := interned.toArray }
  heap := heap
  slotsUsed := slotsUsed
  threads := #[{ frames := .invoking theMethod args0 :: below }]
def below0 : List Frame := [.native { method := ⟨0, 0⟩, args := #[] }]
def about1 : State := aboutOver below0
def p0 : Program := .bare "" "" ""
def e0 : Env := launch0.env 0 0 0
theorem w_frames : about1.frames = Frame.invoking theMethod args0 :: below0 := rfl
set_option maxRecDepth 65536 in
theorem w_args : argsFit about1.vm theMethod args0 = true := by decide +kernel
set_option maxRecDepth 65536 in
theorem w_heap : heapFits about1 = true := by decide +kernel
set_option maxRecDepth 65536 in
theorem w_runnable : about1.curStatus? = some .runnable := by decide +kernel
set_option maxRecDepth 65536 in
theorem w_alone : about1.alone = true := by decide +kernel
set_option maxRecDepth 65536 in
theorem w_named : about1.methodNamed? x = some theMethod := by decide +kernel
set_option maxRecDepth 65536 in
theorem w_hears : about1.hears theMethod below0 = true := by decide +kernel
set_option maxRecDepth 65536 in
theorem w_ripe : about1.ripe theMethod args0 below0 = true := by decide +kernel
theorem w_running : about1.status = .running := rfl
set_option maxRecDepth 65536 in
theorem w_room : about1.hasRoom e0.platform room_1 = true :=
  launch0.hasRoom_least _ room_1 (by decide +kernel) (by decide +kernel) (by decide +kernel) (by decide +kernel) (by decide +kernel) (by decide +kernel)
theorem allAtoms_all (ts : List Jvm.Cond) (a : Array Jvm.Value) (st : Jvm.State) : (allAtoms ts).before a st = ts.all (fun c => c.before a st) := by
  induction ts with
  | nil => rfl
  | cons c t ih =>
    show (Jvm.Cond.and c (allAtoms t)).before a st = _
    rw [Jvm.Cond.before_and, ih, List.all_cons]
def words1 : List Jvm.Cond := Jvm.Cond.code x code maxLocals ret :: tables_1
/-- a 'code' word, met by the world's own term for the bytes: nothing is compared byte by byte -/
theorem code_word {y : MethodName} {bytes : ByteArray} {mx : Nat} {rt : Option FieldType} {a : Array Value} {s : State} {m : MethodId} {meth : Method} {c : Code} (h1 : s.methodNamed? y = some m) (h2 : s.vm.method? m = some meth) (h3 : meth.code = some c) (h4 : c.code = bytes)
    (h5 : (c.maxLocals == mx && c.exceptionTable.isEmpty && decide (c.maxStack ≤ mostOperands) && decide (meth.sig.returnType = rt) && !meth.locks && decide (parseMethodDescriptor y.desc = some meth.sig)) = true) : (Jvm.Cond.code y bytes mx rt).before a s = true := by
  simp only [Bool.and_eq_true, beq_iff_eq, Bool.not_eq_true', decide_eq_true_eq] at h5
  obtain ⟨⟨⟨⟨⟨g1, g2⟩, g3⟩, g4⟩, g5⟩, g6⟩ := h5
  simp [Cond.before, Cond.holds, Cond.value, h1, h2, h3, h4, g1, g2, g3, g4, g5, g6]
def isCode : Jvm.Cond → Bool
  | .code _ _ _ _ => true
  | _ => false
theorem all_split {L : List Jvm.Cond} {P : Jvm.Cond → Bool} (h1 : L.all (fun c => isCode c || P c) = true) (h2 : ∀ c ∈ L.filter isCode, P c = true) : L.all P = true := by
  refine List.all_eq_true.mpr fun c hc => ?_
  have h := List.all_eq_true.mp h1 c hc
  rcases Bool.eq_false_or_eq_true (isCode c) with hi | hi
  · exact h2 c (List.mem_filter.mpr ⟨hc, hi⟩)
  · simpa [hi] using h
set_option maxRecDepth 65536 in
theorem w_c0 : (Jvm.Cond.code x code maxLocals ret).before args0 about1 = true := code_word (m := ⟨1, 1⟩) (meth := k1m1) (c := k1c1) (by decide +kernel) rfl rfl rfl (by decide +kernel)
set_option maxRecDepth 65536 in
theorem w_c1 : (Jvm.Cond.code ({ cls := "com/example/slotd/slotd/calendar/Length", name := "<init>", desc := "(JJ)V" } : Jvm.MethodName) prog_65_method_1_code (5 : Nat) (Option.none : Option Jvm.ClassFile.FieldType)).before args0 about1 = true := code_word (m := ⟨3, 0⟩) (meth := k3m0) (c := k3c0) (by decide +kernel) rfl rfl rfl (by decide +kernel)
set_option maxRecDepth 65536 in
theorem w_c2 : (Jvm.Cond.code ({ cls := "java/lang/Record", name := "<init>", desc := "()V" } : Jvm.MethodName) jdk_30_method_1_code (1 : Nat) (Option.none : Option Jvm.ClassFile.FieldType)).before args0 about1 = true := code_word (m := ⟨2, 0⟩) (meth := k2m0) (c := k2c0) (by decide +kernel) rfl rfl rfl (by decide +kernel)
set_option maxRecDepth 65536 in
theorem w_c3 : (Jvm.Cond.code ({ cls := "java/lang/Object", name := "<init>", desc := "()V" } : Jvm.MethodName) object_method_1_code (1 : Nat) (Option.none : Option Jvm.ClassFile.FieldType)).before args0 about1 = true := code_word (m := ⟨0, 0⟩) (meth := k0m0) (c := k0c0) (by decide +kernel) rfl rfl rfl (by decide +kernel)
set_option maxRecDepth 65536 in
theorem w_c4 : (Jvm.Cond.code ({ cls := "com/example/slotd/slotd/calendar/Length", name := "longestSeconds", desc := "()J" } : Jvm.MethodName) prog_65_method_3_code (1 : Nat) (Option.some Jvm.ClassFile.FieldType.long)).before args0 about1 = true := code_word (m := ⟨3, 1⟩) (meth := k3m1) (c := k3c1) (by decide +kernel) rfl rfl rfl (by decide +kernel)
def codes1 : List Jvm.Cond := [Jvm.Cond.code x code maxLocals ret, Jvm.Cond.code ({ cls := "com/example/slotd/slotd/calendar/Length", name := "<init>", desc := "(JJ)V" } : Jvm.MethodName) prog_65_method_1_code (5 : Nat) (Option.none : Option Jvm.ClassFile.FieldType), Jvm.Cond.code ({ cls := "java/lang/Record", name := "<init>", desc := "()V" } : Jvm.MethodName) jdk_30_method_1_code (1 : Nat) (Option.none : Option Jvm.ClassFile.FieldType), Jvm.Cond.code ({ cls := "java/lang/Object", name := "<init>", desc := "()V" } : Jvm.MethodName) object_method_1_code (1 : Nat) (Option.none : Option Jvm.ClassFile.FieldType), Jvm.Cond.code ({ cls := "com/example/slotd/slotd/calendar/Length", name := "longestSeconds", desc := "()J" } : Jvm.MethodName) prog_65_method_3_code (1 : Nat) (Option.some Jvm.ClassFile.FieldType.long)]
set_option maxRecDepth 65536 in
theorem codes_eq : words1.filter isCode = codes1 := rfl
theorem w_codes : ∀ c ∈ words1.filter isCode, c.before args0 about1 = true := by
  rw [codes_eq]
  intro c hc
  simp only [codes1, List.mem_cons, List.not_mem_nil, or_false] at hc
  rcases hc with rfl | rfl | rfl | rfl | rfl
  · exact w_c0
  · exact w_c1
  · exact w_c2
  · exact w_c3
  · exact w_c4
set_option maxRecDepth 65536 in
theorem w_t1 : (words1.take 24).all (fun c => isCode c || c.before args0 about1) = true := by decide +kernel
set_option maxRecDepth 65536 in
theorem w_t2 : (words1.drop 24).all (fun c => isCode c || c.before args0 about1) = true := by decide +kernel
theorem w_tables : (allAtoms (Jvm.Cond.code x code maxLocals ret :: tables_1)).before args0 about1 = true := by
  rw [allAtoms_all]
  show words1.all (fun c => c.before args0 about1) = true
  refine all_split ?_ w_codes
  rw [← List.take_append_drop 24 words1, List.all_append, w_t1, w_t2]
  rfl
set_option maxRecDepth 65536 in
theorem w_case : (Jvm.Cond.and given_1 narrow_1).before args0 about1 = true := by decide +kernel
theorem w_applies : (headSpec (Jvm.Cond.code x code maxLocals ret :: tables_1) room_1).applies x e0.platform about1 = true :=
  (Spec.applies_iff w_frames).mpr ⟨w_running, w_runnable, w_alone, w_named, w_hears, w_ripe, w_room, w_tables⟩
theorem atStart : AtStart classFile x code maxLocals ret World_1 tables_1 room_1 Calls_1 rest_1 Pre_1 launch0 p0 e0 about1 theMethod args0 below0 :=
  ⟨lists_1, trivial, launch0.admits_env _ _ _, launch0.least_env, fairChoices_fair.cas, fairChoices_fair.clock, w_frames, w_args, w_heap, w_applies, trivial, trivial, w_case⟩
end start1
theorem witness_1 : WitnessClaimed_1 := ⟨start1.p0, start1.e0, start1.about1, start1.theMethod, start1.args0, start1.below0, start1.atStart⟩
end Jvm.Pilot.@@N@@
