import JvmDerived
import JvmDerived.Pilot.@@N@@Statement
import JvmDerived.Pilot.@@N@@Code
set_option linter.unusedVariables false
set_option linter.unusedSimpArgs false
@@BLOCK:NumsL.lean.txt@@
namespace Jvm.RoadKit
open Sem ClassFile Op Lib Jvm.Stand Jvm.Free Jvm.LawKit
section OwnKit
variable {p : Program} {l : Launch} {e : Env} {R : Room} {s : State} {m : MethodId} {args : Array Value} {below : List Frame} {meth : Method} {c : Code} {T T' : State} {locs locs' : List Loc} {k n k' n' : Nat} {Z : State} {a0 : Array Value} {h h' h0 : Heap}
theorem retI (X : Stand p l e R s m args below meth c T locs k n) (hx : p.tables.exec = Jvm.exec) {pc : Nat} {Ls : Array Slot} {z : Int32} {rest : List Value} (hret : meth.sig.returnType = some .int) (hd : decode c.code pc = .ok (.ireturn, 1)) {fs : List Frame}
    (hl : ∀ (f : JFrame) (acts : List Action), f.method = m → f.locked = none → f.entered = [] → (doReturn e (T.setTop f) acts (some (.int z))).1 = T.setFrames fs) : Steps p.tables e below (T.setTop (mkF m pc Ls (.int z :: rest))) (T.setFrames fs) := by
  have hm' : T.vm.method? m = some meth := X.method'
  have hn : narrow .int (.int z) = .int z := rfl
  show Steps p.tables e below (T.setTop { method := m, pc := pc, locals := Ls, stack := _ :: rest, locked := none }) _
  jvm_step X.here [X.here.top, hx, hd, hm', hret, hn]
  first | (intro acts; rw [hl _ acts rfl rfl rfl]) | rw [hl _ _ rfl rfl rfl]
  exact Steps.refl _
/-- how a body may end: the instruction, the method's return type, what lies on the stack, what is handed back -/
def OwnRet (i : Instr) (ret : Option FieldType) (w v : Option Value) : Prop :=
  (i = .ireturn ∧ ∃ z : Int32, ret = some .int ∧ w = some (.int z) ∧ v = some (.int z)) ∨
  (i = .ireturn ∧ ∃ (t : FieldType) (z : Int32), ret = some t ∧ (t = .boolean ∨ t = .byte ∨ t = .char ∨ t = .short) ∧ w = some (.int z) ∧ v = some (.int (nar t z))) ∨
  (i = .lreturn ∧ ret = some .long ∧ ∃ z : Int64, w = some (.long z) ∧ v = some (.long z)) ∨
  (i = .areturn ∧ ∃ (t : FieldType) (u : Value), ret = some t ∧ t.isReference = true ∧ u.isRef = true ∧ narrow t u = u ∧ w = some u ∧ v = some u) ∨
  (i = .return_ ∧ ret = none ∧ w = none ∧ v = none)
/-- from the frame g the body comes to its return and leaves what Q says -/
def OwnFin (_X : Stand p l e R s m args below meth c T locs k n) (ret : Option FieldType) (Q : Option Value → Heap → List Loc → Prop) (K N : Nat) (g : JFrame) : Prop :=
  ∃ (i : Instr) (w v : Option Value) (T' : State) (locs' : List Loc) (k' n' pcr : Nat) (Ls : Array Slot), OwnRet i ret w v ∧ Stand p l e R s m args below meth c T' locs' k' n' ∧ k' ≤ K ∧ n' ≤ N ∧ Q v T'.heap locs' ∧ decode c.code pcr = .ok (i, 1) ∧
    ∀ t, Steps p.tables e below (T'.setTop (mkF m pcr Ls w.toList)) t → Steps p.tables e below (T.setTop g) t
variable {ret : Option FieldType} {Q : Option Value → Heap → List Loc → Prop} {K N : Nat} {g g' : JFrame}
theorem OwnFin.step {X : Stand p l e R s m args below meth c T locs k n} (X' : Stand p l e R s m args below meth c T' locs' k' n') (hs : ∀ t, Steps p.tables e below (T'.setTop g') t → Steps p.tables e below (T.setTop g) t) (hF : OwnFin X' ret Q K N g') : OwnFin X ret Q K N g := by
  obtain ⟨i, w, v, T2, locs2, k2, n2, pcr, Ls, h1, h2, h3, h4, h5, h6, h7⟩ := hF
  exact ⟨i, w, v, T2, locs2, k2, n2, pcr, Ls, h1, h2, h3, h4, h5, h6, fun t k => hs t (h7 t k)⟩
theorem OwnFin.retInt (X : Stand p l e R s m args below meth c T locs k n) {pc : Nat} {Ls : Array Slot} {z : Int32} (hd : decode c.code pc = .ok (.ireturn, 1)) (hk : k ≤ K) (hn : n ≤ N) (hQ : Q (some (.int z)) T.heap locs) : OwnFin X (some .int) Q K N (mkF m pc Ls [.int z]) :=
  ⟨.ireturn, some (.int z), _, T, locs, k, n, pc, Ls, Or.inl ⟨rfl, z, rfl, rfl, rfl⟩, X, hk, hn, hQ, hd, fun _ k => k⟩
theorem OwnFin.retNar (X : Stand p l e R s m args below meth c T locs k n) {t : FieldType} (ht : t = .boolean ∨ t = .byte ∨ t = .char ∨ t = .short) {pc : Nat} {Ls : Array Slot} {z : Int32} (hd : decode c.code pc = .ok (.ireturn, 1)) (hk : k ≤ K) (hn : n ≤ N) (hQ : Q (some (.int (nar t z))) T.heap locs) : OwnFin X (some t) Q K N (mkF m pc Ls [.int z]) :=
  ⟨.ireturn, some (.int z), _, T, locs, k, n, pc, Ls, Or.inr (Or.inl ⟨rfl, t, z, rfl, ht, rfl, rfl⟩), X, hk, hn, hQ, hd, fun _ k => k⟩
theorem OwnFin.retLong (X : Stand p l e R s m args below meth c T locs k n) {pc : Nat} {Ls : Array Slot} {z : Int64} (hd : decode c.code pc = .ok (.lreturn, 1)) (hk : k ≤ K) (hn : n ≤ N) (hQ : Q (some (.long z)) T.heap locs) : OwnFin X (some .long) Q K N (mkF m pc Ls [.long z]) :=
  ⟨.lreturn, some (.long z), _, T, locs, k, n, pc, Ls, Or.inr (Or.inr (Or.inl ⟨rfl, rfl, z, rfl, rfl⟩)), X, hk, hn, hQ, hd, fun _ k => k⟩
theorem OwnFin.retRef (X : Stand p l e R s m args below meth c T locs k n) {t : FieldType} {u : Value} (ht : t.isReference = true) (hu : u.isRef = true) (hnw : narrow t u = u) {pc : Nat} {Ls : Array Slot} (hd : decode c.code pc = .ok (.areturn, 1)) (hk : k ≤ K) (hn : n ≤ N) (hQ : Q (some u) T.heap locs) : OwnFin X (some t) Q K N (mkF m pc Ls [u]) :=
  ⟨.areturn, some u, _, T, locs, k, n, pc, Ls, Or.inr (Or.inr (Or.inr (Or.inl ⟨rfl, t, u, rfl, ht, hu, hnw, rfl, rfl⟩))), X, hk, hn, hQ, hd, fun _ k => k⟩
theorem OwnFin.retVoid (X : Stand p l e R s m args below meth c T locs k n) {pc : Nat} {Ls : Array Slot} (hd : decode c.code pc = .ok (.return_, 1)) (hk : k ≤ K) (hn : n ≤ N) (hQ : Q none T.heap locs) : OwnFin X none Q K N (mkF m pc Ls []) :=
  ⟨.return_, none, _, T, locs, k, n, pc, Ls, Or.inr (Or.inr (Or.inr (Or.inr ⟨rfl, rfl, rfl, rfl⟩))), X, hk, hn, hQ, hd, fun _ k => k⟩
theorem own_met {y : MethodName} {bytes : ByteArray} {maxL : Nat} {rm : Room} {ws : List Jvm.Cond} {as' : Array Value} {Ls : Array Slot} (hpf : plainFor y = true) (hent : ∀ m, entryFrame m as' maxL = mkF m 0 Ls [])
    (H : ∀ p e s m below meth c s₁ (X : Stand p l e rm s m as' below meth c s₁ [] 0 0), p.tables.exec = Jvm.exec → c.code = bytes → c.maxLocals = maxL → s.vm.findClass y.cls = some m.cls → meth.name = y.name → Z.Warmed39 s.vm → s₁.heap = h0 → OwnFin X ret Q rm.cells rm.slots (mkF m 0 Ls [])) :
    MetFree l y (head1 (Jvm.Cond.code y bytes maxL ret :: ws) rm) (fun a U => a = as' ∧ Z.Warmed39 U.vm ∧ U.heap = h0) (fun _ _ _ _ _ => True) (fun _ U o U' => ∃ v L, o = .returned v ∧ Q v U'.heap L ∧ FrameEnd U o U' L rm.cells rm.slots) := by
  refine MetFree.of_bodySF hpf hisR ?_
  intro p e s m args below meth c s₁ Bd hml0 hP hK
  obtain ⟨rfl, hZ, hh⟩ := hP
  have hx := Bd.exec
  have hby := Bd.bytes
  have hown : s.vm.findClass y.cls = some m.cls := findClass_of_methodNamed Bd.named
  have hnm := (name_of_methodNamed Bd.named Bd.method).1
  have X0 : Stand p l e rm s m args below meth c s₁ [] 0 0 := Stand.of_body Bd
  have e0 : s₁.heap = h0 := by rw [← hh, Bd.state]; rfl
  obtain ⟨i, w, v, T2, locs2, k2, n2, pcr, Ls2, h1, X2, h3, h4, h5, h6, h7⟩ := H p e s m below meth c s₁ X0 hx hby hml0 hown hnm hZ e0
  have hret := Bd.returns
  have hv : meth.sig.returnType = none → v = none := by
    intro q
    rw [hret] at q
    rcases h1 with ⟨-, z, hr, -⟩ | ⟨-, t, z, hr, -⟩ | ⟨-, hr, -⟩ | ⟨-, t, u, hr, -⟩ | ⟨-, -, -, hr⟩
    · rw [hr] at q; cases q
    · rw [hr] at q; cases q
    · rw [hr] at q; cases q
    · rw [hr] at q; cases q
    · exact hr
  obtain ⟨fs, hr, hrun, hended, hW, hsame⟩ := X2.leave (v := v) hv
  refine ⟨_, _, ?_, hrun, hended, _, _, rfl, h5, ⟨_, rfl⟩, hW, hsame.mono h3 h4⟩
  rw [hent]
  apply h7
  rcases h1 with ⟨rfl, z, rfl, rfl, rfl⟩ | ⟨rfl, t, z, rfl, ht, rfl, rfl⟩ | ⟨rfl, rfl, z, rfl, rfl⟩ | ⟨rfl, t, u, rfl, ht, hu, hnw, rfl, rfl⟩ | ⟨rfl, rfl, rfl, rfl⟩
  · exact retI X2 hx hret h6 hr
  · exact retN X2 hx hret ht h6 hr
  · exact retOut X2 hx hret rfl (Or.inr (Or.inl ⟨rfl, rfl, z, rfl⟩)) h6 hr
  · exact retOut X2 hx hret hnw (Or.inr (Or.inr (Or.inr (Or.inr ⟨rfl, ht, hu⟩)))) h6 hr
  · exact X2.returnOut hx hret h6 hr
theorem OwnFin.wide {X : Stand p l e R s m args below meth c T locs k n} {K' N' : Nat} (F : OwnFin X ret Q K N g) (h1 : K ≤ K') (h2 : N ≤ N') : OwnFin X ret Q K' N' g := by
  obtain ⟨i, w, v, T2, locs2, k2, n2, pcr, Ls, q1, q2, q3, q4, q5, q6, q7⟩ := F
  exact ⟨i, w, v, T2, locs2, k2, n2, pcr, Ls, q1, q2, Nat.le_trans q3 h1, Nat.le_trans q4 h2, q5, q6, q7⟩
/-- a callee that leaves the heap alone: what it hands back -/
def PQ (w : Option Value) (h0 : Heap) (n0 : Nat) : Option Value → Heap → List Loc → Prop := fun v h L => v = w ∧ h = h0 ∧ Fr n0 L
def LQ (n0 : Nat) : Option Value → Heap → List Loc → Prop := fun v _ L => v = some (.int 1) ∧ Fr n0 L
theorem own_callS (X : Stand p l e R s m args below meth c T locs k n) (hx : p.tables.exec = Jvm.exec) (hZ : Z.Warmed39 s.vm) {own : String} {index : Nat} {y : MethodName} {bytes : ByteArray} {maxL W : Nat} {rt : Option FieldType} {rm : Room} {argsL rest : List Value} {ps : List FieldType} {r : Option FieldType} {Qc : Option Value → Heap → List Loc → Prop}
    (hown : s.vm.findClass own = some m.cls) (w1 : (Jvm.Cond.methodLink own index y).before a0 Z = true) (w2 : (Jvm.Cond.static y).before a0 Z = true) (w3 : (Jvm.Cond.initialized y.cls).before a0 Z = true) (w4 : (Jvm.Cond.code y bytes maxL rt).before a0 Z = true) (hy : y.cls ≠ "java/lang/invoke/MethodHandle" ∧ y.cls ≠ "java/lang/invoke/VarHandle")
    (hM : MetFree l y (head1 [Jvm.Cond.code y bytes maxL rt] rm) (fun a U => a = argsL.toArray ∧ Z.Warmed39 U.vm ∧ U.heap = h) (fun _ _ _ _ _ => True) (fun _ U o U' => ∃ v L, o = .returned v ∧ Qc v U'.heap L ∧ FrameEnd U o U' L rm.cells rm.slots))
    (hf : rm.frames + 1 ≤ R.frames) (hl : W + (maxL + 11) + rm.locals ≤ R.locals) (hc : k + rm.cells ≤ R.cells) (hs : n + rm.slots ≤ R.slots) (eT : T.heap = h)
    (hg : g.method = m) (hsize : g.locals.size = c.maxLocals) (hd : parseMethodDescriptor y.desc = some ⟨ps, r⟩) (hlen : argsL.length = ps.length) (hstack : g.stack = argsL.reverse ++ rest) (hW : 2 * g.monitorRoom + (rest.map fun v => v.category).sum ≤ W) (hdg : decode c.code g.pc = .ok (.invokestatic index, 3)) :
    ∃ v T' L, Stand p l e R s m args below meth c T' (locs ++ L) (k + rm.cells) (n + rm.slots) ∧ Qc v T'.heap L ∧ ∀ t, Steps p.tables e below (T'.setTop { g with pc := g.pc + 3, stack := v.toList ++ rest }) t → Steps p.tables e below (T.setTop g) t := by
  obtain ⟨v, vm1, ⟨T', L', k', n'⟩, -, X', ⟨Lc, hQ, l1, y1, z1⟩, st⟩ := Jvm.LawKit.callS X hx (y := y) hown (mvT hZ w1) (mvT hZ w2) (mvT hZ w3) (mvT hZ w4) hy (backOf (W := W) hM hZ w4 w3 hf hl) hg hsize (argsL := argsL) (rest := rest) (lenOf hd hlen) hstack hW hdg (fun _ _ => ⟨rfl, eT, hc, hs⟩)
  dsimp only [Pt.U, Pt.locs, Pt.cells, Pt.slots] at X' l1 y1 z1 st hQ
  subst l1 y1 z1
  exact ⟨v, T', Lc, X', hQ, st⟩
theorem own_callI (X : Stand p l e R s m args below meth c T locs k n) (hx : p.tables.exec = Jvm.exec) (hZ : Z.Warmed39 s.vm) {own : String} {index : Nat} {y : MethodName} {bytes : ByteArray} {maxL W : Nat} {rm : Room} {a : Addr} {argsL rest : List Value} {ps : List FieldType} {r : Option FieldType} {Qc : Option Value → Heap → List Loc → Prop}
    (hy1 : y.name = "<init>") (hown : s.vm.findClass own = some m.cls) (w1 : (Jvm.Cond.methodLink own index y).before a0 Z = true) (w2 : (Jvm.Cond.instanceMethod y).before a0 Z = true) (w3 : (Jvm.Cond.initialized y.cls).before a0 Z = true) (w4 : (Jvm.Cond.code y bytes maxL none).before a0 Z = true) (hy : y.cls ≠ "java/lang/invoke/MethodHandle" ∧ y.cls ≠ "java/lang/invoke/VarHandle")
    (hM : MetFree l y (head1 [Jvm.Cond.code y bytes maxL none] rm) (fun a' U => a' = (Value.ref a :: argsL).toArray ∧ Z.Warmed39 U.vm ∧ U.heap = h) (fun _ _ _ _ _ => True) (fun _ U o U' => ∃ v L, o = .returned v ∧ Qc v U'.heap L ∧ FrameEnd U o U' L rm.cells rm.slots))
    (hf : rm.frames + 1 ≤ R.frames) (hl : W + (maxL + 11) + rm.locals ≤ R.locals) (hc : k + rm.cells ≤ R.cells) (hs : n + rm.slots ≤ R.slots) (eT : T.heap = h)
    (hg : g.method = m) (hsize : g.locals.size = c.maxLocals) (hd : parseMethodDescriptor y.desc = some ⟨ps, r⟩) (hlen : argsL.length = ps.length) (hstack : g.stack = argsL.reverse ++ .ref a :: rest) (hW : 2 * g.monitorRoom + (rest.map fun v => v.category).sum ≤ W) (hdg : decode c.code g.pc = .ok (.invokespecial index, 3)) :
    ∃ v T' L, Stand p l e R s m args below meth c T' (locs ++ L) (k + rm.cells) (n + rm.slots) ∧ Qc v T'.heap L ∧ ∀ t, Steps p.tables e below (T'.setTop { g with pc := g.pc + 3, stack := v.toList ++ rest }) t → Steps p.tables e below (T.setTop g) t := by
  obtain ⟨v, vm1, ⟨T', L', k', n'⟩, -, X', ⟨Lc, hQ, l1, y1, z1⟩, st⟩ := X.specialBack hx (y := y) hy1 hown (mvT hZ w1) (mvT hZ w2) (mvT hZ w4) hy (backOf (W := W) hM hZ w4 w3 hf hl) hg hsize (Steps.refl _) (a := a) (argsL := argsL) (rest := rest) (lenOf hd hlen) hstack hW hdg (fun _ _ => ⟨rfl, eT, hc, hs⟩)
  dsimp only [Pt.U, Pt.locs, Pt.cells, Pt.slots] at X' l1 y1 z1 st hQ
  subst l1 y1 z1
  exact ⟨v, T', Lc, X', hQ, fun t k => st.trans k⟩
theorem own_callV (X : Stand p l e R s m args below meth c T locs k n) (hx : p.tables.exec = Jvm.exec) (hZ : Z.Warmed39 s.vm) {own C : String} {index : Nat} {y : MethodName} {bytes : ByteArray} {maxL W : Nat} {rt : Option FieldType} {rm : Room} {a : Addr} {argsL rest : List Value} {ps : List FieldType} {r : Option FieldType} {Qc : Option Value → Heap → List Loc → Prop}
    (hown : s.vm.findClass own = some m.cls) (w1 : (Jvm.Cond.methodLink own index y).before a0 Z = true) (w2 : (Jvm.Cond.declares y).before a0 Z = true) (w5 : (Jvm.Cond.selects C y y).before a0 Z = true) (w6 : (Jvm.Cond.instanceMethod y).before a0 Z = true) (w3 : (Jvm.Cond.initialized y.cls).before a0 Z = true) (w4 : (Jvm.Cond.code y bytes maxL rt).before a0 Z = true) (hy : y.cls ≠ "java/lang/invoke/MethodHandle" ∧ y.cls ≠ "java/lang/invoke/VarHandle")
    (E : Exa Z h a C)
    (hM : MetFree l y (head1 [Jvm.Cond.code y bytes maxL rt] rm) (fun a' U => a' = (Value.ref a :: argsL).toArray ∧ Z.Warmed39 U.vm ∧ U.heap = h) (fun _ _ _ _ _ => True) (fun _ U o U' => ∃ v L, o = .returned v ∧ Qc v U'.heap L ∧ FrameEnd U o U' L rm.cells rm.slots))
    (hf : rm.frames + 1 ≤ R.frames) (hl : W + (maxL + 11) + rm.locals ≤ R.locals) (hc : k + rm.cells ≤ R.cells) (hs : n + rm.slots ≤ R.slots) (eT : T.heap = h)
    (hg : g.method = m) (hsize : g.locals.size = c.maxLocals) (hd : parseMethodDescriptor y.desc = some ⟨ps, r⟩) (hlen : argsL.length = ps.length) (hstack : g.stack = argsL.reverse ++ .ref a :: rest) (hW : 2 * g.monitorRoom + (rest.map fun v => v.category).sum ≤ W) (hdg : decode c.code g.pc = .ok (.invokevirtual index, 3)) :
    ∃ v T' L, Stand p l e R s m args below meth c T' (locs ++ L) (k + rm.cells) (n + rm.slots) ∧ Qc v T'.heap L ∧ ∀ t, Steps p.tables e below (T'.setTop { g with pc := g.pc + 3, stack := v.toList ++ rest }) t → Steps p.tables e below (T.setTop g) t := by
  obtain ⟨cq, kq, q1, q2, q3⟩ := isOf hZ eT E
  obtain ⟨v, vm1, ⟨T', L', k', n'⟩, -, X', ⟨Lc, hQ, l1, y1, z1⟩, st⟩ := X.virtualBack hx (y := y) (z := y) hown (mvT hZ w1) (mvT hZ w2) (notFace_of_selects (args := #[]) (mvT hZ w5)) (mvT hZ w5) (mvT hZ w6) hy (backOf (W := W) hM hZ w4 w3 hf hl) q1 q3 hg hsize (Steps.refl _) (argsL := argsL) (rest := rest) (lenOf hd hlen) hstack hW hdg (fun _ _ => ⟨rfl, eT, hc, hs⟩)
  dsimp only [Pt.U, Pt.locs, Pt.cells, Pt.slots] at X' l1 y1 z1 st hQ
  subst l1 y1 z1
  exact ⟨v, T', Lc, X', hQ, fun t k => st.trans k⟩
theorem lrem_eq_mod (x y : Int64) : x - (x / y) * y = x % y := by
  apply Int64.toInt_inj.mp
  have h1 := Int64.le_toInt (x % y)
  have h2 := Int64.toInt_lt (x % y)
  rw [Int64.toInt_sub, Int64.toInt_mul, Int64.toInt_div, Int.bmod_mul_bmod, Int.sub_bmod_bmod, Int.mul_comm (x.toInt.tdiv y.toInt), ← Int.tmod_def, ← Int64.toInt_mod]
  exact Int.bmod_eq_of_le_mul_two (by omega) (by omega)
theorem lremM (X : Stand p l e R s m args below meth c T locs k n) (hx : p.tables.exec = Jvm.exec) (hg : g.method = m) {x y : Int64} {rest : List Value} (hd : decode c.code g.pc = .ok (.lrem, 1)) (hs : g.stack = .long y :: .long x :: rest) (hy : y ≠ 0) {target : State}
    (hr : Steps p.tables e below (T.setTop { g with pc := g.pc + 1, stack := .long (x % y) :: rest }) target) : Steps p.tables e below (T.setTop g) target := by
  exact XT.lrem X.here hx hg hd hs hy (by rw [lrem_eq_mod]; exact hr)
theorem cl_lt (x y : Int64) : XT.cmpL x y < 0 ↔ x < y := by
  unfold XT.cmpL
  split
  · rename_i q; simp only [Int64.lt_iff_toInt_lt] at *; constructor <;> intro w <;> first | (exact absurd w (by decide)) | omega
  · split
    · rename_i q r; subst r; constructor <;> intro w
      · exact absurd w (by decide)
      · exact absurd w q
    · rename_i q r; constructor <;> intro w
      · simp only [Int64.lt_iff_toInt_lt, ← Int64.toInt_inj] at *; omega
      · decide
theorem cl_gt (x y : Int64) : 0 < XT.cmpL x y ↔ y < x := by
  unfold XT.cmpL
  split
  · rename_i q; exact ⟨fun _ => q, fun _ => by decide⟩
  · rename_i q
    constructor
    · intro w; split at w <;> exact absurd w (by decide)
    · intro w; exact absurd w q
theorem cl_eq (x y : Int64) : XT.cmpL x y = 0 ↔ x = y := by
  unfold XT.cmpL
  split
  · rename_i q; constructor
    · intro w; exact absurd w (by decide)
    · intro w; subst w; simp only [Int64.lt_iff_toInt_lt] at q; omega
  · split
    · rename_i r; exact ⟨fun _ => r, fun _ => rfl⟩
    · rename_i r; constructor
      · intro w; exact absurd w (by decide)
      · intro w; exact absurd w r
end OwnKit
end Jvm.RoadKit
namespace Jvm.RoadKit
open Sem ClassFile Op Lib Jvm.Stand Jvm.Free Jvm.LawKit
section OwnHeap
variable {p : Program} {l : Launch} {e : Env} {R : Room} {s : State} {m : MethodId} {args : Array Value} {below : List Frame} {meth : Method} {c : Code} {T T' : State} {locs locs' : List Loc} {k n k' n' : Nat} {Z : State} {a0 : Array Value} {h h' h0 : Heap} {g : JFrame} {a b : Addr} {ws ws' : List Addr} {n0 : Nat}
theorem keep_ext (E : Ext h h') : Keep h h' [] := (Keep.refl h []).ext E
theorem nin1 {x y : Addr} (q : x ≠ y) : x ∉ [y] := ninS q nin0
/-- an array: its length and what each place holds -/
def Ary (Z : State) (h : Heap) (a : Addr) (ty : FieldType) (n : Nat) (f : Nat → Value) : Prop := ∃ c : Cell, Arr Z h a c ty ∧ c.slots.size = n ∧ n < 2 ^ 31 ∧ ∀ i, i < n → c.slots[i]? = some (f i)
def upd {α : Type} (f : Nat → α) (j : Nat) (v : α) : Nat → α := fun i => if i = j then v else f i
theorem upd_same {α : Type} (f : Nat → α) (j : Nat) (v : α) : upd f j v j = v := if_pos rfl
theorem upd_ne {α : Type} (f : Nat → α) {i j : Nat} (v : α) (q : i ≠ j) : upd f j v i = f i := if_neg q
def InB (j : Int32) (n : Nat) : Prop := ¬ j < 0 ∧ j.toNatClampNeg < n
instance (j : Int32) (n : Nat) : Decidable (InB j n) := inferInstanceAs (Decidable (¬ j < 0 ∧ j.toNatClampNeg < n))
variable {ty : FieldType} {len : Nat} {f : Nat → Value}
theorem Ary.lt (F : Ary Z h a ty len f) : a < h.size := by obtain ⟨c, A, -⟩ := F; exact A.lt
theorem Ary.keep (F : Ary Z h a ty len f) (K : Keep h h' ws) (q : a ∉ ws) : Ary Z h' a ty len f := by
  obtain ⟨c, A, r⟩ := F; exact ⟨c, ⟨K.2.1 a c A.1 q, A.2⟩, r⟩
theorem Ary.small (F : Ary Z h a ty len f) : len < 2 ^ 31 := by obtain ⟨c, A, r1, r2, -⟩ := F; exact r2
theorem Ary.congr {f' : Nat → Value} (F : Ary Z h a ty len f) (q : ∀ i, i < len → f i = f' i) : Ary Z h a ty len f' := by
  obtain ⟨c, A, r1, r2, r3⟩ := F; exact ⟨c, A, r1, r2, fun i hi => by rw [← q i hi]; exact r3 i hi⟩
theorem Ary.wr {v : Value} {j : Nat} (F : Ary Z h a ty len f) (W : Wr h h' a j v) (hj : j < len) : Ary Z h' a ty len (upd f j v) := by
  obtain ⟨c, A, r1, r2, r3⟩ := F
  refine ⟨_, A.same W, by rw [sz_set]; exact r1, r2, fun i hi => ?_⟩
  by_cases q : i = j
  · subst q; rw [upd_same]; simp [Cell.setSlot, r1, hi]
  · rw [upd_ne _ _ q]; simp only [Cell.setSlot]; rw [Array.getElem?_setIfInBounds_ne (Ne.symm q)]; exact r3 i hi
theorem not_in {j : Int32} {n : Nat} (q : InB j n) {c : Cell} (r : c.slots.size = n) : ¬ (j < 0 ∨ c.slots.size ≤ j.toNatClampNeg) := by
  rw [r]; obtain ⟨q1, q2⟩ := q; intro z; rcases z with z | z
  · exact q1 z
  · omega
theorem own_len (X : Stand p l e R s m args below meth c T locs k n) (hx : p.tables.exec = Jvm.exec) (hZ : Z.Warmed39 s.vm) (eT : T.heap = h) (A : Ary Z h a ty len f) {rest : List Value} (hg : g.method = m) (hs : g.stack = .ref a :: rest) (hd : decode c.code g.pc = .ok (.arraylength, 1)) (t : State)
    (hr : Steps p.tables e below (T.setTop { g with pc := g.pc + 1, stack := .int len.toInt32 :: rest }) t) : Steps p.tables e below (T.setTop g) t := by
  obtain ⟨cl, A1, r1, r2, r3⟩ := A
  refine X.arraylength hx (by rw [eT]; exact A1.1) (State.isArrayOf_alike hZ.alike A1.2.1) hg hs hd t ?_
  rw [r1]; exact hr
theorem own_ldI (X : Stand p l e R s m args below meth c T locs k n) (hx : p.tables.exec = Jvm.exec) (hZ : Z.Warmed39 s.vm) (eT : T.heap = h) (A : Ary Z h a .int len f) {j : Int32} (hj : InB j len) {v : Value} (hv : f j.toNatClampNeg = v) {rest : List Value} (hg : g.method = m) (hs : g.stack = .int j :: .ref a :: rest) (hd : decode c.code g.pc = .ok (.iaload, 1)) (t : State)
    (hr : Steps p.tables e below (T.setTop { g with pc := g.pc + 1, stack := v :: rest }) t) : Steps p.tables e below (T.setTop g) t := by
  obtain ⟨cl, A1, r1, r2, r3⟩ := A
  exact X.iaload hx (by rw [eT]; exact A1.1) (State.isArrayOf_alike hZ.alike A1.2.1) A1.2.2 (not_in hj r1) (by rw [r3 _ hj.2, hv]) hg hs hd t hr
theorem own_ldJ (X : Stand p l e R s m args below meth c T locs k n) (hx : p.tables.exec = Jvm.exec) (hZ : Z.Warmed39 s.vm) (eT : T.heap = h) (A : Ary Z h a .long len f) {j : Int32} (hj : InB j len) {v : Value} (hv : f j.toNatClampNeg = v) {rest : List Value} (hg : g.method = m) (hs : g.stack = .int j :: .ref a :: rest) (hd : decode c.code g.pc = .ok (.laload, 1)) (t : State)
    (hr : Steps p.tables e below (T.setTop { g with pc := g.pc + 1, stack := v :: rest }) t) : Steps p.tables e below (T.setTop g) t := by
  obtain ⟨cl, A1, r1, r2, r3⟩ := A
  exact X.laload hx (by rw [eT]; exact A1.1) (State.isArrayOf_alike hZ.alike A1.2.1) A1.2.2 (not_in hj r1) (by rw [r3 _ hj.2, hv]) hg hs hd t hr
theorem own_ldC (X : Stand p l e R s m args below meth c T locs k n) (hx : p.tables.exec = Jvm.exec) (hZ : Z.Warmed39 s.vm) (eT : T.heap = h) (A : Ary Z h a .char len f) {j : Int32} (hj : InB j len) {v : Value} (hv : f j.toNatClampNeg = v) {rest : List Value} (hg : g.method = m) (hs : g.stack = .int j :: .ref a :: rest) (hd : decode c.code g.pc = .ok (.caload, 1)) (t : State)
    (hr : Steps p.tables e below (T.setTop { g with pc := g.pc + 1, stack := v :: rest }) t) : Steps p.tables e below (T.setTop g) t := by
  obtain ⟨cl, A1, r1, r2, r3⟩ := A
  exact X.caload hx (by rw [eT]; exact A1.1) (State.isArrayOf_alike hZ.alike A1.2.1) A1.2.2 (not_in hj r1) (by rw [r3 _ hj.2, hv]) hg hs hd t hr
theorem own_ldB (X : Stand p l e R s m args below meth c T locs k n) (hx : p.tables.exec = Jvm.exec) (hZ : Z.Warmed39 s.vm) (eT : T.heap = h) (A : Ary Z h a .byte len f) {j : Int32} (hj : InB j len) {v : Value} (hv : f j.toNatClampNeg = v) {rest : List Value} (hg : g.method = m) (hs : g.stack = .int j :: .ref a :: rest) (hd : decode c.code g.pc = .ok (.baload, 1)) (t : State)
    (hr : Steps p.tables e below (T.setTop { g with pc := g.pc + 1, stack := v :: rest }) t) : Steps p.tables e below (T.setTop g) t := by
  obtain ⟨cl, A1, r1, r2, r3⟩ := A
  exact X.baloadBytes hx (by rw [eT]; exact A1.1) (State.isArrayOf_alike hZ.alike A1.2.1) A1.2.2 (not_in hj r1) (by rw [r3 _ hj.2, hv]) hg hs hd t hr
theorem own_ldA (X : Stand p l e R s m args below meth c T locs k n) (hx : p.tables.exec = Jvm.exec) (hZ : Z.Warmed39 s.vm) (eT : T.heap = h) (A : Ary Z h a ty len f) (hty : ty.isReference = true) {j : Int32} (hj : InB j len) {v : Value} (hv : f j.toNatClampNeg = v) {rest : List Value} (hg : g.method = m) (hs : g.stack = .int j :: .ref a :: rest) (hd : decode c.code g.pc = .ok (.aaload, 1)) (t : State)
    (hr : Steps p.tables e below (T.setTop { g with pc := g.pc + 1, stack := v :: rest }) t) : Steps p.tables e below (T.setTop g) t := by
  obtain ⟨cl, A1, r1, r2, r3⟩ := A
  exact X.aaload hx (by rw [eT]; exact A1.1) (State.isArrayOf_alike hZ.alike A1.2.1) hty A1.2.2 (not_in hj r1) (by rw [r3 _ hj.2, hv]) hg hs hd t hr
theorem own_stI (X : Stand p l e R s m args below meth c T locs k n) (hx : p.tables.exec = Jvm.exec) (hZ : Z.Warmed39 s.vm) (eT : T.heap = h) (N : Fr n0 locs) {G : Nat → Int32} (A : Ary Z h a .int len (fun i => .int (G i))) (ga : n0 ≤ a) {j x : Int32} (hj : InB j len) {rest : List Value} (hg : g.method = m) (hs : g.stack = .int x :: .int j :: .ref a :: rest) (hd : decode c.code g.pc = .ok (.iastore, 1)) :
    ∃ (T' : State) (h' : Heap) (locs' : List Loc), Stand p l e R s m args below meth c T' locs' k n ∧ T'.heap = h' ∧ Fr n0 locs' ∧ Keep h h' [a] ∧ Ary Z h' a .int len (fun i => .int (upd G j.toNatClampNeg x i)) ∧ ∀ t, Steps p.tables e below (T'.setTop { g with pc := g.pc + 1, stack := rest }) t → Steps p.tables e below (T.setTop g) t := by
  obtain ⟨cl, A1, r⟩ := A
  obtain ⟨T', h', X', e', W, st⟩ := stI X hx hZ eT A1 (not_in hj r.1) hg hs hd
  exact ⟨T', h', _, X', e', Fr.snoc X' N ga, Keep.of_wr W, (Ary.wr ⟨cl, A1, r⟩ W hj.2).congr (fun i _ => by unfold upd; split <;> rfl), st⟩
theorem own_stJ (X : Stand p l e R s m args below meth c T locs k n) (hx : p.tables.exec = Jvm.exec) (hZ : Z.Warmed39 s.vm) (eT : T.heap = h) (N : Fr n0 locs) {G : Nat → Int64} (A : Ary Z h a .long len (fun i => .long (G i))) (ga : n0 ≤ a) {j : Int32} {x : Int64} (hj : InB j len) {rest : List Value} (hg : g.method = m) (hs : g.stack = .long x :: .int j :: .ref a :: rest) (hd : decode c.code g.pc = .ok (.lastore, 1)) :
    ∃ (T' : State) (h' : Heap) (locs' : List Loc), Stand p l e R s m args below meth c T' locs' k n ∧ T'.heap = h' ∧ Fr n0 locs' ∧ Keep h h' [a] ∧ Ary Z h' a .long len (fun i => .long (upd G j.toNatClampNeg x i)) ∧ ∀ t, Steps p.tables e below (T'.setTop { g with pc := g.pc + 1, stack := rest }) t → Steps p.tables e below (T.setTop g) t := by
  obtain ⟨cl, A1, r⟩ := A
  obtain ⟨T', h', X', e', W, st⟩ := stJ X hx hZ eT A1 (not_in hj r.1) hg hs hd
  exact ⟨T', h', _, X', e', Fr.snoc X' N ga, Keep.of_wr W, (Ary.wr ⟨cl, A1, r⟩ W hj.2).congr (fun i _ => by unfold upd; split <;> rfl), st⟩
theorem own_stC (X : Stand p l e R s m args below meth c T locs k n) (hx : p.tables.exec = Jvm.exec) (hZ : Z.Warmed39 s.vm) (eT : T.heap = h) (N : Fr n0 locs) {G : Nat → Int32} (A : Ary Z h a .char len (fun i => .int (G i))) (ga : n0 ≤ a) {j x : Int32} (hj : InB j len) {rest : List Value} (hg : g.method = m) (hs : g.stack = .int x :: .int j :: .ref a :: rest) (hd : decode c.code g.pc = .ok (.castore, 1)) :
    ∃ (T' : State) (h' : Heap) (locs' : List Loc), Stand p l e R s m args below meth c T' locs' k n ∧ T'.heap = h' ∧ Fr n0 locs' ∧ Keep h h' [a] ∧ Ary Z h' a .char len (fun i => .int (upd G j.toNatClampNeg (nar .char x) i)) ∧ ∀ t, Steps p.tables e below (T'.setTop { g with pc := g.pc + 1, stack := rest }) t → Steps p.tables e below (T.setTop g) t := by
  obtain ⟨cl, A1, r⟩ := A
  obtain ⟨T', h', X', e', W, st⟩ := stC X hx hZ eT A1 (not_in hj r.1) hg hs hd
  exact ⟨T', h', _, X', e', Fr.snoc X' N ga, Keep.of_wr W, (Ary.wr ⟨cl, A1, r⟩ W hj.2).congr (fun i _ => by unfold upd; split <;> rfl), st⟩
theorem own_stB (X : Stand p l e R s m args below meth c T locs k n) (hx : p.tables.exec = Jvm.exec) (hZ : Z.Warmed39 s.vm) (eT : T.heap = h) (N : Fr n0 locs) {G : Nat → Int32} (A : Ary Z h a .byte len (fun i => .int (G i))) (ga : n0 ≤ a) {j x : Int32} (hj : InB j len) {rest : List Value} (hg : g.method = m) (hs : g.stack = .int x :: .int j :: .ref a :: rest) (hd : decode c.code g.pc = .ok (.bastore, 1)) :
    ∃ (T' : State) (h' : Heap) (locs' : List Loc), Stand p l e R s m args below meth c T' locs' k n ∧ T'.heap = h' ∧ Fr n0 locs' ∧ Keep h h' [a] ∧ Ary Z h' a .byte len (fun i => .int (upd G j.toNatClampNeg (nar .byte x) i)) ∧ ∀ t, Steps p.tables e below (T'.setTop { g with pc := g.pc + 1, stack := rest }) t → Steps p.tables e below (T.setTop g) t := by
  obtain ⟨cl, A1, r⟩ := A
  obtain ⟨T', h', X', e', W, st⟩ := stB X hx hZ eT A1 (not_in hj r.1) hg hs hd
  exact ⟨T', h', _, X', e', Fr.snoc X' N ga, Keep.of_wr W, (Ary.wr ⟨cl, A1, r⟩ W hj.2).congr (fun i _ => by unfold upd; split <;> rfl), st⟩
/-- newarray of a length that is not negative and at most cap -/
theorem own_new (X : Stand p l e R s m args below meth c T locs k n) (hx : p.tables.exec = Jvm.exec) (hZ : Z.Warmed39 s.vm) {aty : ArrayType} (w : (Jvm.Cond.arrayClass (newarray.typeOf aty)).before a0 Z = true) (eT : T.heap = h) (hg : g.method = m) (hd : decode c.code g.pc = .ok (.newarray aty, 2)) {z : Int32} {rest : List Value} (hs : g.stack = .int z :: rest)
    (hn : ¬ z < 0) {cap : Nat} (hcap : z.toNatClampNeg ≤ cap) (hb : cap * 8 ≤ 536870912) (hc : k + 1 ≤ R.cells) (hl : n + cap ≤ R.slots) :
    ∃ (T' : State) (h' : Heap) (a : Addr), Stand p l e R s m args below meth c T' locs (k + 1) (n + cap) ∧ T'.heap = h' ∧ a = h.size ∧ Keep h h' [] ∧ Ary Z h' a (newarray.typeOf aty) z.toNatClampNeg (fun _ => defaultValue (newarray.typeOf aty)) ∧
      ∀ t, Steps p.tables e below (T'.setTop { g with pc := g.pc + 2, stack := .ref a :: rest }) t → Steps p.tables e below (T.setTop g) t := by
  obtain ⟨T', h', cA, X', e', E, A, st⟩ := newP X hx hZ w eT hg hd hs hn hcap hb hc hl
  refine ⟨T', h', _, X', e', rfl, keep_ext E, ⟨_, A, sz_new _ _ _, ?_, fun i hi => ?_⟩, st⟩
  · exact (back32 hn).2
  · simp [newA, hi]
/-- an object's field written: the heap, what is kept, the field -/
theorem own_putF (X : Stand p l e R s m args below meth c T locs k n) (hx : p.tables.exec = Jvm.exec) (hZ : Z.Warmed39 s.vm) {own O nm d C : String} {index kk : Nat} {fty : FieldType} (hown : s.vm.findClass own = some m.cls) (w : (Jvm.Cond.fieldLink own index O nm d).before a0 Z = true)
    (eT : T.heap = h) (N : Fr n0 locs) {u v : Value} (F : Fld Z h a O nm d u) (E : Exa Z h a C) (ga : n0 ≤ a) (lw : (Jvm.Cond.lays C O nm d).before a0 Z = true ∨ ((Jvm.Cond.laysFinal C O nm d).before a0 Z = true ∧ own = O ∧ meth.name = "<init>")) (wi : (Jvm.Cond.instantiable C kk).before a0 Z = true)
    (hty : parseFieldDescriptor d = some fty) (hn : narrow fty v = v) (hf : fits fty v = true) {rest : List Value} (hg : g.method = m) (hs : g.stack = v :: .ref a :: rest) (hd : decode c.code g.pc = .ok (.putfield index, 3)) :
    ∃ (T' : State) (h' : Heap) (locs' : List Loc), Stand p l e R s m args below meth c T' locs' k n ∧ T'.heap = h' ∧ Fr n0 locs' ∧ Wr h h' a (slotOf Z O nm d) v ∧ Fld Z h' a O nm d v ∧ ∀ t, Steps p.tables e below (T'.setTop { g with pc := g.pc + 3, stack := rest }) t → Steps p.tables e below (T.setTop g) t := by
  obtain ⟨T', h', X', e', W, st⟩ := putF X hx hZ hown (host := "") (Or.inl w) Via.refl eT F E lw wi (ty := fty) hty hn hf hg hs hd
  exact ⟨T', h', _, X', e', Fr.snoc X' N ga, W, F.same W, st⟩
theorem Exa.neS {C : String} (F : Exa Z h a C) (q : b = h.size) : a ≠ b := by
  have r := Exa.lt F; intro z; rw [z, q] at r; exact Nat.lt_irrefl _ r
theorem Ary.neS (F : Ary Z h a ty len f) (q : b = h.size) : a ≠ b := by
  have r := Ary.lt F; intro z; rw [z, q] at r; exact Nat.lt_irrefl _ r
end OwnHeap
end Jvm.RoadKit
namespace Jvm.RoadKit
open Sem ClassFile Op Lib Jvm.Stand Jvm.Free Jvm.LawKit
section OwnNum
theorem i32lt (x y : Int32) : x < y ↔ x.toInt < y.toInt := Int32.lt_iff_toInt_lt
theorem i32eq (x y : Int32) : x = y ↔ x.toInt = y.toInt := Int32.toInt_inj.symm
theorem i64lt (x y : Int64) : x < y ↔ x.toInt < y.toInt := Int64.lt_iff_toInt_lt
theorem i64eq (x y : Int64) : x = y ↔ x.toInt = y.toInt := Int64.toInt_inj.symm
theorem nar0 : nar .boolean 0 = 0 := by decide
theorem nar1 : nar .boolean 1 = 1 := by decide
theorem narI (P : Prop) [Decidable P] : nar .boolean (if P then 1 else 0) = if P then 1 else 0 := by split <;> decide
theorem ushr_pos {x y : Int32} (hx : 0 ≤ x.toInt) {k : Nat} (hn : (y &&& 31).toUInt32.toNat = k) (hk : k < 32) : (XT.ushr x y).toInt = x.toInt / 2 ^ k :=
  Jvm.Kit.i32_iushr (Jvm.Kit.i32_nonneg.mpr hx) hn hk
theorem ushr_nat (x y : Int32) {k : Nat} (hn : (y &&& 31).toUInt32.toNat = k) (h1 : 0 < k) (hk : k < 32) : (XT.ushr x y).toInt = (x.toBitVec.toNat / 2 ^ k : Nat) := by
  have e1 : (XT.ushr x y).toBitVec.toNat = x.toBitVec.toNat / 2 ^ k := by
    show (x.toUInt32 >>> (y &&& 31).toUInt32).toNat = _
    rw [UInt32.toNat_shiftRight, hn, Nat.mod_eq_of_lt hk, Nat.shiftRight_eq_div_pow]
    rfl
  have e2 := x.toBitVec.isLt
  have e3 : x.toBitVec.toNat / 2 ^ k < 2 ^ 31 := by
    apply Nat.div_lt_of_lt_mul
    calc x.toBitVec.toNat < 2 ^ 32 := e2
      _ ≤ 2 ^ k * 2 ^ 31 := by rw [← Nat.pow_add]; exact Nat.pow_le_pow_right (by omega) (by omega)
  show (XT.ushr x y).toBitVec.toInt = _
  rw [BitVec.toInt_eq_toNat_of_lt (by rw [e1]; omega), e1]
theorem inb_of_toInt {j : Int32} {n : Nat} (h1 : 0 ≤ j.toInt) (h2 : j.toInt < n) : InB j n := by
  refine ⟨?_, ?_⟩
  · rw [i32lt]; show ¬ j.toInt < 0; omega
  · simp only [Int32.toNatClampNeg]; omega
theorem or32_nat (n : Nat) : n ||| 32 = n + (if n % 64 < 32 then 32 else 0) := by
  have h1 : (n ||| 32) % 2 ^ 6 = (n % 2 ^ 6) ||| (32 % 2 ^ 6) := Nat.or_mod_two_pow
  have h2 : (n ||| 32) / 2 ^ 6 = n / 2 ^ 6 := by
    rw [← Nat.shiftRight_eq_div_pow, Nat.shiftRight_or_distrib, ← Nat.shiftRight_eq_div_pow]
    simp
  have h3 : ∀ r : Fin 64, r.val ||| 32 = if r.val < 32 then r.val + 32 else r.val := by decide
  have h4 := h3 ⟨n % 64, Nat.mod_lt _ (by omega)⟩
  simp only at h4
  have h5 : (n % 2 ^ 6) ||| (32 % 2 ^ 6) = (n % 64) ||| 32 := rfl
  rw [h5, h4] at h1
  split at h1 <;> split <;> omega
theorem or32 (c : Int32) : (c ||| 32).toInt = c.toInt + (if c.toInt % 64 < 32 then 32 else 0) := by
  have e1 : (c ||| 32).toBitVec.toNat = c.toBitVec.toNat ||| 32 := by simp [BitVec.toNat_or]
  have e2 : c.toInt = c.toBitVec.toInt := rfl
  have e3 : (c ||| 32).toInt = (c ||| 32).toBitVec.toInt := rfl
  have e4 := c.toBitVec.isLt
  have e5 := (c ||| 32).toBitVec.isLt
  rw [e2, e3, BitVec.toInt_eq_toNat_cond, BitVec.toInt_eq_toNat_cond, e1, or32_nat]
  rw [e1, or32_nat] at e5
  split at e5 <;> split <;> split <;> split <;> omega
theorem i2c_toInt (x : Int32) : (x.toUInt32.toUInt16.toUInt32.toInt32).toInt = x.toInt % 65536 := by
  have e1 : (x.toUInt32.toUInt16.toUInt32.toInt32).toBitVec.toNat = x.toBitVec.toNat % 65536 := by
    show (x.toUInt32.toUInt16.toUInt32).toNat = _
    simp
    rfl
  have e2 := x.toBitVec.isLt
  have e3 : x.toInt = x.toBitVec.toInt := rfl
  have e4 : (x.toUInt32.toUInt16.toUInt32.toInt32).toInt = (x.toUInt32.toUInt16.toUInt32.toInt32).toBitVec.toInt := rfl
  rw [e3, e4, BitVec.toInt_eq_toNat_cond, BitVec.toInt_eq_toNat_cond, e1]
  split <;> split <;> omega
theorem mulbd {a b : Int} (h1 : 0 ≤ a) (h2 : a ≤ 2147483648) (h3 : 0 ≤ b) (h4 : b ≤ 2147483648) : 0 ≤ a * b ∧ a * b ≤ 4611686018427387904 := by
  refine ⟨Int.mul_nonneg h1 h3, ?_⟩
  have h : a * b ≤ 2147483648 * 2147483648 := Int.mul_le_mul h2 h4 h3 (by omega)
  omega
theorem mul64g {x y : Int64} (h1 : 0 ≤ x.toInt) (h2 : x.toInt ≤ 2147483648) (h3 : 0 ≤ y.toInt) (h4 : y.toInt ≤ 2147483648) : (x * y).toInt = x.toInt * y.toInt := by
  obtain ⟨b1, b2⟩ := mulbd h1 h2 h3 h4
  exact Jvm.Kit.i64_mul (by omega) (by omega)
theorem mul64 {x y : Int32} (h1 : 0 ≤ x.toInt) (h3 : 0 ≤ y.toInt) : (x.toInt64 * y.toInt64).toInt = x.toInt * y.toInt := by
  have e1 := Jvm.Kit.i64_of_i32 x
  have e2 := Jvm.Kit.i64_of_i32 y
  have b1 := Int32.toInt_lt x
  have b2 := Int32.toInt_lt y
  rw [mul64g (by omega) (by omega) (by omega) (by omega), e1, e2]
/-- the quotient q of a by b: b * q ≤ a < b * q + b -/
theorem quot {a b : Int} (hb : 0 < b) : b * (a / b) ≤ a ∧ a < b * (a / b) + b := by
  have h1 := Int.emod_def a b
  have h2 := Int.emod_nonneg a (show b ≠ 0 by omega)
  have h3 := Int.emod_lt_of_pos a hb
  omega
theorem div64 {x y : Int64} (h1 : 0 ≤ x.toInt) (h2 : 0 < y.toInt) : (x / y).toInt = x.toInt / y.toInt := by
  rw [Jvm.Kit.i64_div (by omega), Int.tdiv_eq_ediv_of_nonneg h1]
theorem mask31 (x : Int32) : (x &&& 2147483647).toInt = x.toInt % 2147483648 := by
  have := Jvm.Kit.i32_mask x 2147483647 (k := 31) (by decide) (by decide)
  omega
theorem rem32 {x y : Int32} (h : 0 ≤ x.toInt) (h2 : 0 < y.toInt) : 0 ≤ (x % y).toInt ∧ (x % y).toInt < y.toInt := by
  rw [Jvm.Kit.i32_rem_nonneg h]
  exact ⟨Int.emod_nonneg _ (by omega), Int.emod_lt_of_pos _ h2⟩
end OwnNum
end Jvm.RoadKit
namespace Jvm.Pilot.@@N@@
open Jvm Jvm.ClassFile Sem Op Lib Jvm.Free Jvm.Stand Jvm.LawKit Jvm.RoadKit Bundle Jvm.Pilot.@@N@@.Jvm.D
/-! body 1: com/example/genkan/genkan/UriCharacters.isHexDigit:(C)Z -/
theorem d1_0 : decode prog_9_method_7_code 0 = .ok (.iload_n 0, 1) := by decide +kernel
theorem d1_1 : decode prog_9_method_7_code 1 = .ok (.bipush 48, 2) := by decide +kernel
theorem d1_3 : decode prog_9_method_7_code 3 = .ok (.if_icmp .lt 9, 3) := by decide +kernel
theorem d1_6 : decode prog_9_method_7_code 6 = .ok (.iload_n 0, 1) := by decide +kernel
theorem d1_7 : decode prog_9_method_7_code 7 = .ok (.bipush 57, 2) := by decide +kernel
theorem d1_9 : decode prog_9_method_7_code 9 = .ok (.if_icmp .le 27, 3) := by decide +kernel
theorem d1_12 : decode prog_9_method_7_code 12 = .ok (.iload_n 0, 1) := by decide +kernel
theorem d1_13 : decode prog_9_method_7_code 13 = .ok (.bipush 65, 2) := by decide +kernel
theorem d1_15 : decode prog_9_method_7_code 15 = .ok (.if_icmp .lt 9, 3) := by decide +kernel
theorem d1_18 : decode prog_9_method_7_code 18 = .ok (.iload_n 0, 1) := by decide +kernel
theorem d1_19 : decode prog_9_method_7_code 19 = .ok (.bipush 70, 2) := by decide +kernel
theorem d1_21 : decode prog_9_method_7_code 21 = .ok (.if_icmp .le 15, 3) := by decide +kernel
theorem d1_24 : decode prog_9_method_7_code 24 = .ok (.iload_n 0, 1) := by decide +kernel
theorem d1_25 : decode prog_9_method_7_code 25 = .ok (.bipush 97, 2) := by decide +kernel
theorem d1_27 : decode prog_9_method_7_code 27 = .ok (.if_icmp .lt 13, 3) := by decide +kernel
theorem d1_30 : decode prog_9_method_7_code 30 = .ok (.iload_n 0, 1) := by decide +kernel
theorem d1_31 : decode prog_9_method_7_code 31 = .ok (.bipush 102, 2) := by decide +kernel
theorem d1_33 : decode prog_9_method_7_code 33 = .ok (.if_icmp .gt 7, 3) := by decide +kernel
theorem d1_36 : decode prog_9_method_7_code 36 = .ok (.iconst 1, 1) := by decide +kernel
theorem d1_37 : decode prog_9_method_7_code 37 = .ok (.goto 4, 3) := by decide +kernel
theorem d1_40 : decode prog_9_method_7_code 40 = .ok (.iconst 0, 1) := by decide +kernel
theorem d1_41 : decode prog_9_method_7_code 41 = .ok (.ireturn, 1) := by decide +kernel
theorem pn_1 : plainName "com/example/genkan/genkan/UriCharacters" = true := by first | (simp [plainName, overriddenIn]; done) | decide +kernel
theorem ef_1 (m : MethodId) (p0 : Int32) : entryFrame m #[(.int p0)] 1 = mkF m 0 #[.val (.int p0)] [] := by first | (simp [entryFrame, mkF, argsToLocals, Value.category]; done) | rfl
def f1_24 (p0 : Int32) : Int32 := (if p0 < (97 : Int32) then (0 : Int32) else (if (102 : Int32) < p0 then (0 : Int32) else (1 : Int32)))
set_option maxRecDepth 65536 in
set_option maxHeartbeats 40000000 in
theorem j1_24 {p : Program} {l : Launch} {e : Env} {s : State} {m : MethodId} {args : Array Value} {below : List Frame} {meth : Method} {c : Code} {T0 : State} {locs : List Loc} {Z : State} {a0 : Array Value} {h0 : Heap} {n0 : Nat}
    (X0 : Stand p l e ({ frames := 0, cells := 0, slots := 0, locals := 0 } : Room) s m args below meth c T0 locs 0 0) (hx : p.tables.exec = Jvm.exec) (hZ : Z.Warmed39 s.vm) (hw : ∀ d ∈ tables_1, d.before a0 Z = true) (hby : c.code = prog_9_method_7_code) (hml : c.maxLocals = 1) (hown : s.vm.findClass "com/example/genkan/genkan/UriCharacters" = some m.cls) (e0 : T0.heap = h0) (N0 : Fr n0 locs) (Z0 : n0 ≤ h0.size) (p0 : Int32) :
    OwnFin X0 (some .boolean) (PQ (some (.int (nar .boolean (f1_24 p0)))) h0 n0) 0 0 (mkF m 24 #[.val (.int p0)] []) := by
  show OwnFin X0 (some .boolean) (PQ (some (.int (nar .boolean (if p0 < (97 : Int32) then (0 : Int32) else (if (102 : Int32) < p0 then (0 : Int32) else (1 : Int32)))))) h0 n0) 0 0 _
  refine OwnFin.step (g' := (mkF m 25 #[.val (.int p0)] [(.int p0)])) X0 (fun t k => XS.iloadN X0.here hx rfl (hb hby d1_24) rfl k) ?_
  refine OwnFin.step (g' := (mkF m 27 #[.val (.int p0)] [(.int (97 : Int32)), (.int p0)])) X0 (fun t k => XS.bipush X0.here hx rfl (hb hby d1_25) k) ?_
  by_cases hc5 : p0 < (97 : Int32)
  · rw [if_pos hc5]
    refine OwnFin.step (g' := (mkF m 40 #[.val (.int p0)] [])) X0 (fun t k => XS.icmpYes X0.here hx rfl (pc0 := 27) (pc' := 40) rfl (hb hby d1_27) rfl (tlt hc5).1 (by decide) (by decide) k) ?_
    refine OwnFin.step (g' := (mkF m 41 #[.val (.int p0)] [(.int (0 : Int32))])) X0 (fun t k => XS.iconst X0.here hx rfl (hb hby d1_40) k) ?_
    exact OwnFin.retNar X0 (by simp) (hb hby d1_41) (Nat.le_refl _) (Nat.le_refl _) ⟨rfl, e0, N0⟩
  · rw [if_neg hc5]
    refine OwnFin.step (g' := (mkF m 30 #[.val (.int p0)] [])) X0 (fun t k => XS.icmpNo X0.here hx rfl (hb hby d1_27) rfl (flt hc5).1 k) ?_
    refine OwnFin.step (g' := (mkF m 31 #[.val (.int p0)] [(.int p0)])) X0 (fun t k => XS.iloadN X0.here hx rfl (hb hby d1_30) rfl k) ?_
    refine OwnFin.step (g' := (mkF m 33 #[.val (.int p0)] [(.int (102 : Int32)), (.int p0)])) X0 (fun t k => XS.bipush X0.here hx rfl (hb hby d1_31) k) ?_
    by_cases hc6 : (102 : Int32) < p0
    · rw [if_pos hc6]
      refine OwnFin.step (g' := (mkF m 40 #[.val (.int p0)] [])) X0 (fun t k => XS.icmpYes X0.here hx rfl (pc0 := 33) (pc' := 40) rfl (hb hby d1_33) rfl (tlt hc6).2.2.1 (by decide) (by decide) k) ?_
      refine OwnFin.step (g' := (mkF m 41 #[.val (.int p0)] [(.int (0 : Int32))])) X0 (fun t k => XS.iconst X0.here hx rfl (hb hby d1_40) k) ?_
      exact OwnFin.retNar X0 (by simp) (hb hby d1_41) (Nat.le_refl _) (Nat.le_refl _) ⟨rfl, e0, N0⟩
    · rw [if_neg hc6]
      refine OwnFin.step (g' := (mkF m 36 #[.val (.int p0)] [])) X0 (fun t k => XS.icmpNo X0.here hx rfl (hb hby d1_33) rfl (flt hc6).2.2.1 k) ?_
      refine OwnFin.step (g' := (mkF m 37 #[.val (.int p0)] [(.int (1 : Int32))])) X0 (fun t k => XS.iconst X0.here hx rfl (hb hby d1_36) k) ?_
      refine OwnFin.step (g' := (mkF m 41 #[.val (.int p0)] [(.int (1 : Int32))])) X0 (fun t k => XS.goto X0.here hx rfl (pc0 := 37) (pc' := 41) rfl (hb hby d1_37) (by decide) (by decide) k) ?_
      exact OwnFin.retNar X0 (by simp) (hb hby d1_41) (Nat.le_refl _) (Nat.le_refl _) ⟨rfl, e0, N0⟩
def f1_12 (p0 : Int32) : Int32 := (if p0 < (65 : Int32) then (f1_24 p0) else (if (70 : Int32) < p0 then (f1_24 p0) else (1 : Int32)))
set_option maxRecDepth 65536 in
set_option maxHeartbeats 40000000 in
theorem j1_12 {p : Program} {l : Launch} {e : Env} {s : State} {m : MethodId} {args : Array Value} {below : List Frame} {meth : Method} {c : Code} {T0 : State} {locs : List Loc} {Z : State} {a0 : Array Value} {h0 : Heap} {n0 : Nat}
    (X0 : Stand p l e ({ frames := 0, cells := 0, slots := 0, locals := 0 } : Room) s m args below meth c T0 locs 0 0) (hx : p.tables.exec = Jvm.exec) (hZ : Z.Warmed39 s.vm) (hw : ∀ d ∈ tables_1, d.before a0 Z = true) (hby : c.code = prog_9_method_7_code) (hml : c.maxLocals = 1) (hown : s.vm.findClass "com/example/genkan/genkan/UriCharacters" = some m.cls) (e0 : T0.heap = h0) (N0 : Fr n0 locs) (Z0 : n0 ≤ h0.size) (p0 : Int32) :
    OwnFin X0 (some .boolean) (PQ (some (.int (nar .boolean (f1_12 p0)))) h0 n0) 0 0 (mkF m 12 #[.val (.int p0)] []) := by
  show OwnFin X0 (some .boolean) (PQ (some (.int (nar .boolean (if p0 < (65 : Int32) then (f1_24 p0) else (if (70 : Int32) < p0 then (f1_24 p0) else (1 : Int32)))))) h0 n0) 0 0 _
  refine OwnFin.step (g' := (mkF m 13 #[.val (.int p0)] [(.int p0)])) X0 (fun t k => XS.iloadN X0.here hx rfl (hb hby d1_12) rfl k) ?_
  refine OwnFin.step (g' := (mkF m 15 #[.val (.int p0)] [(.int (65 : Int32)), (.int p0)])) X0 (fun t k => XS.bipush X0.here hx rfl (hb hby d1_13) k) ?_
  by_cases hc3 : p0 < (65 : Int32)
  · rw [if_pos hc3]
    refine OwnFin.step (g' := (mkF m 24 #[.val (.int p0)] [])) X0 (fun t k => XS.icmpYes X0.here hx rfl (pc0 := 15) (pc' := 24) rfl (hb hby d1_15) rfl (tlt hc3).1 (by decide) (by decide) k) ?_
    exact j1_24 X0 hx hZ hw hby hml hown e0 N0 Z0 p0
  · rw [if_neg hc3]
    refine OwnFin.step (g' := (mkF m 18 #[.val (.int p0)] [])) X0 (fun t k => XS.icmpNo X0.here hx rfl (hb hby d1_15) rfl (flt hc3).1 k) ?_
    refine OwnFin.step (g' := (mkF m 19 #[.val (.int p0)] [(.int p0)])) X0 (fun t k => XS.iloadN X0.here hx rfl (hb hby d1_18) rfl k) ?_
    refine OwnFin.step (g' := (mkF m 21 #[.val (.int p0)] [(.int (70 : Int32)), (.int p0)])) X0 (fun t k => XS.bipush X0.here hx rfl (hb hby d1_19) k) ?_
    by_cases hc4 : (70 : Int32) < p0
    · rw [if_pos hc4]
      refine OwnFin.step (g' := (mkF m 24 #[.val (.int p0)] [])) X0 (fun t k => XS.icmpNo X0.here hx rfl (hb hby d1_21) rfl (tlt hc4).2.2.2 k) ?_
      exact j1_24 X0 hx hZ hw hby hml hown e0 N0 Z0 p0
    · rw [if_neg hc4]
      refine OwnFin.step (g' := (mkF m 36 #[.val (.int p0)] [])) X0 (fun t k => XS.icmpYes X0.here hx rfl (pc0 := 21) (pc' := 36) rfl (hb hby d1_21) rfl (flt hc4).2.2.2 (by decide) (by decide) k) ?_
      refine OwnFin.step (g' := (mkF m 37 #[.val (.int p0)] [(.int (1 : Int32))])) X0 (fun t k => XS.iconst X0.here hx rfl (hb hby d1_36) k) ?_
      refine OwnFin.step (g' := (mkF m 41 #[.val (.int p0)] [(.int (1 : Int32))])) X0 (fun t k => XS.goto X0.here hx rfl (pc0 := 37) (pc' := 41) rfl (hb hby d1_37) (by decide) (by decide) k) ?_
      exact OwnFin.retNar X0 (by simp) (hb hby d1_41) (Nat.le_refl _) (Nat.le_refl _) ⟨rfl, e0, N0⟩
def f1_0 (p0 : Int32) : Int32 := (if p0 < (48 : Int32) then (f1_12 p0) else (if (57 : Int32) < p0 then (f1_12 p0) else (1 : Int32)))
set_option maxRecDepth 65536 in
set_option maxHeartbeats 40000000 in
theorem j1_0 {p : Program} {l : Launch} {e : Env} {s : State} {m : MethodId} {args : Array Value} {below : List Frame} {meth : Method} {c : Code} {T0 : State} {locs : List Loc} {Z : State} {a0 : Array Value} {h0 : Heap} {n0 : Nat}
    (X0 : Stand p l e ({ frames := 0, cells := 0, slots := 0, locals := 0 } : Room) s m args below meth c T0 locs 0 0) (hx : p.tables.exec = Jvm.exec) (hZ : Z.Warmed39 s.vm) (hw : ∀ d ∈ tables_1, d.before a0 Z = true) (hby : c.code = prog_9_method_7_code) (hml : c.maxLocals = 1) (hown : s.vm.findClass "com/example/genkan/genkan/UriCharacters" = some m.cls) (e0 : T0.heap = h0) (N0 : Fr n0 locs) (Z0 : n0 ≤ h0.size) (p0 : Int32) :
    OwnFin X0 (some .boolean) (PQ (some (.int (nar .boolean (f1_0 p0)))) h0 n0) 0 0 (mkF m 0 #[.val (.int p0)] []) := by
  show OwnFin X0 (some .boolean) (PQ (some (.int (nar .boolean (if p0 < (48 : Int32) then (f1_12 p0) else (if (57 : Int32) < p0 then (f1_12 p0) else (1 : Int32)))))) h0 n0) 0 0 _
  refine OwnFin.step (g' := (mkF m 1 #[.val (.int p0)] [(.int p0)])) X0 (fun t k => XS.iloadN X0.here hx rfl (hb hby d1_0) rfl k) ?_
  refine OwnFin.step (g' := (mkF m 3 #[.val (.int p0)] [(.int (48 : Int32)), (.int p0)])) X0 (fun t k => XS.bipush X0.here hx rfl (hb hby d1_1) k) ?_
  by_cases hc1 : p0 < (48 : Int32)
  · rw [if_pos hc1]
    refine OwnFin.step (g' := (mkF m 12 #[.val (.int p0)] [])) X0 (fun t k => XS.icmpYes X0.here hx rfl (pc0 := 3) (pc' := 12) rfl (hb hby d1_3) rfl (tlt hc1).1 (by decide) (by decide) k) ?_
    exact j1_12 X0 hx hZ hw hby hml hown e0 N0 Z0 p0
  · rw [if_neg hc1]
    refine OwnFin.step (g' := (mkF m 6 #[.val (.int p0)] [])) X0 (fun t k => XS.icmpNo X0.here hx rfl (hb hby d1_3) rfl (flt hc1).1 k) ?_
    refine OwnFin.step (g' := (mkF m 7 #[.val (.int p0)] [(.int p0)])) X0 (fun t k => XS.iloadN X0.here hx rfl (hb hby d1_6) rfl k) ?_
    refine OwnFin.step (g' := (mkF m 9 #[.val (.int p0)] [(.int (57 : Int32)), (.int p0)])) X0 (fun t k => XS.bipush X0.here hx rfl (hb hby d1_7) k) ?_
    by_cases hc2 : (57 : Int32) < p0
    · rw [if_pos hc2]
      refine OwnFin.step (g' := (mkF m 12 #[.val (.int p0)] [])) X0 (fun t k => XS.icmpNo X0.here hx rfl (hb hby d1_9) rfl (tlt hc2).2.2.2 k) ?_
      exact j1_12 X0 hx hZ hw hby hml hown e0 N0 Z0 p0
    · rw [if_neg hc2]
      refine OwnFin.step (g' := (mkF m 36 #[.val (.int p0)] [])) X0 (fun t k => XS.icmpYes X0.here hx rfl (pc0 := 9) (pc' := 36) rfl (hb hby d1_9) rfl (flt hc2).2.2.2 (by decide) (by decide) k) ?_
      refine OwnFin.step (g' := (mkF m 37 #[.val (.int p0)] [(.int (1 : Int32))])) X0 (fun t k => XS.iconst X0.here hx rfl (hb hby d1_36) k) ?_
      refine OwnFin.step (g' := (mkF m 41 #[.val (.int p0)] [(.int (1 : Int32))])) X0 (fun t k => XS.goto X0.here hx rfl (pc0 := 37) (pc' := 41) rfl (hb hby d1_37) (by decide) (by decide) k) ?_
      exact OwnFin.retNar X0 (by simp) (hb hby d1_41) (Nat.le_refl _) (Nat.le_refl _) ⟨rfl, e0, N0⟩
def r1 (p0 : Int32) : Int32 := nar .boolean (f1_0 p0)
set_option maxRecDepth 65536 in
set_option maxHeartbeats 40000000 in
theorem rm1 (l : Launch) (Z : State) (a0 : Array Value) (hw : ∀ d ∈ tables_1, d.before a0 Z = true) (ws : List Jvm.Cond) (p0 : Int32) (h0 : Heap) (n0 : Nat) (Z0 : n0 ≤ h0.size) :
    MetFree l (⟨"com/example/genkan/genkan/UriCharacters", "isHexDigit", "(C)Z"⟩ : MethodName) (head1 (Jvm.Cond.code (⟨"com/example/genkan/genkan/UriCharacters", "isHexDigit", "(C)Z"⟩ : MethodName) prog_9_method_7_code 1 (some .boolean) :: ws) ({ frames := 0, cells := 0, slots := 0, locals := 0 } : Room)) (fun a U => a = #[(.int p0)] ∧ Z.Warmed39 U.vm ∧ U.heap = h0) (fun _ _ _ _ _ => True) (fun _ U o U' => ∃ v L, o = .returned v ∧ PQ (some (.int (r1 p0))) h0 n0 v U'.heap L ∧ FrameEnd U o U' L ({ frames := 0, cells := 0, slots := 0, locals := 0 } : Room).cells ({ frames := 0, cells := 0, slots := 0, locals := 0 } : Room).slots) :=
  own_met (ret := (some .boolean)) (plainFor_of_name pn_1) (fun m => ef_1 m p0) (fun p e s m below meth c s₁ X hx hby hml hown hnm hZ e0 => OwnFin.wide (j1_0 X hx hZ hw hby hml hown e0 (Fr.nil n0) Z0 p0) (Nat.zero_le _) (Nat.zero_le _))
/-! body 2: com/example/genkan/genkan/UriCharactersIsHexDigitPinLaw.reference:(C)Z -/
theorem d2_0 : decode method_3_code 0 = .ok (.iload_n 0, 1) := by decide +kernel
theorem d2_1 : decode method_3_code 1 = .ok (.bipush 48, 2) := by decide +kernel
theorem d2_3 : decode method_3_code 3 = .ok (.isub, 1) := by decide +kernel
theorem d2_4 : decode method_3_code 4 = .ok (.istore_n 1, 1) := by decide +kernel
theorem d2_5 : decode method_3_code 5 = .ok (.iload_n 0, 1) := by decide +kernel
theorem d2_6 : decode method_3_code 6 = .ok (.bipush 32, 2) := by decide +kernel
theorem d2_8 : decode method_3_code 8 = .ok (.ior, 1) := by decide +kernel
theorem d2_9 : decode method_3_code 9 = .ok (.bipush 97, 2) := by decide +kernel
theorem d2_11 : decode method_3_code 11 = .ok (.isub, 1) := by decide +kernel
theorem d2_12 : decode method_3_code 12 = .ok (.istore_n 2, 1) := by decide +kernel
theorem d2_13 : decode method_3_code 13 = .ok (.iload_n 1, 1) := by decide +kernel
theorem d2_14 : decode method_3_code 14 = .ok (.ifCond .lt 9, 3) := by decide +kernel
theorem d2_17 : decode method_3_code 17 = .ok (.iload_n 1, 1) := by decide +kernel
theorem d2_18 : decode method_3_code 18 = .ok (.bipush 10, 2) := by decide +kernel
theorem d2_20 : decode method_3_code 20 = .ok (.if_icmp .lt 13, 3) := by decide +kernel
theorem d2_23 : decode method_3_code 23 = .ok (.iload_n 2, 1) := by decide +kernel
theorem d2_24 : decode method_3_code 24 = .ok (.ifCond .lt 13, 3) := by decide +kernel
theorem d2_27 : decode method_3_code 27 = .ok (.iload_n 2, 1) := by decide +kernel
theorem d2_28 : decode method_3_code 28 = .ok (.bipush 6, 2) := by decide +kernel
theorem d2_30 : decode method_3_code 30 = .ok (.if_icmp .ge 7, 3) := by decide +kernel
theorem d2_33 : decode method_3_code 33 = .ok (.iconst 1, 1) := by decide +kernel
theorem d2_34 : decode method_3_code 34 = .ok (.goto 4, 3) := by decide +kernel
theorem d2_37 : decode method_3_code 37 = .ok (.iconst 0, 1) := by decide +kernel
theorem d2_38 : decode method_3_code 38 = .ok (.ireturn, 1) := by decide +kernel
theorem pn_2 : plainName "com/example/genkan/genkan/UriCharactersIsHexDigitPinLaw" = true := by first | (simp [plainName, overriddenIn]; done) | decide +kernel
theorem ef_2 (m : MethodId) (p0 : Int32) : entryFrame m #[(.int p0)] 3 = mkF m 0 #[.val (.int p0), .unset, .unset] [] := by first | (simp [entryFrame, mkF, argsToLocals, Value.category]; done) | rfl
def v2_4 (p0 : Int32) : Int32 := (p0 - (48 : Int32))
def v2_12 (p0 : Int32) : Int32 := ((p0 ||| (32 : Int32)) - (97 : Int32))
def f2_23 (x23_2 : Int32) : Int32 := (if x23_2 < (0 : Int32) then (0 : Int32) else (if x23_2 < (6 : Int32) then (1 : Int32) else (0 : Int32)))
set_option maxRecDepth 65536 in
set_option maxHeartbeats 40000000 in
theorem j2_23 {p : Program} {l : Launch} {e : Env} {s : State} {m : MethodId} {args : Array Value} {below : List Frame} {meth : Method} {c : Code} {T0 : State} {locs : List Loc} {Z : State} {a0 : Array Value} {h0 : Heap} {n0 : Nat}
    (X0 : Stand p l e ({ frames := 0, cells := 0, slots := 0, locals := 0 } : Room) s m args below meth c T0 locs 0 0) (hx : p.tables.exec = Jvm.exec) (hZ : Z.Warmed39 s.vm) (hw : ∀ d ∈ tables_1, d.before a0 Z = true) (hby : c.code = method_3_code) (hml : c.maxLocals = 3) (hown : s.vm.findClass "com/example/genkan/genkan/UriCharactersIsHexDigitPinLaw" = some m.cls) (e0 : T0.heap = h0) (N0 : Fr n0 locs) (Z0 : n0 ≤ h0.size) (p0 : Int32) (x23_1 : Int32) (x23_2 : Int32) :
    OwnFin X0 (some .boolean) (PQ (some (.int (nar .boolean (f2_23 x23_2)))) h0 n0) 0 0 (mkF m 23 #[.val (.int p0), .val (.int x23_1), .val (.int x23_2)] []) := by
  show OwnFin X0 (some .boolean) (PQ (some (.int (nar .boolean (if x23_2 < (0 : Int32) then (0 : Int32) else (if x23_2 < (6 : Int32) then (1 : Int32) else (0 : Int32)))))) h0 n0) 0 0 _
  refine OwnFin.step (g' := (mkF m 24 #[.val (.int p0), .val (.int x23_1), .val (.int x23_2)] [(.int x23_2)])) X0 (fun t k => XS.iloadN X0.here hx rfl (hb hby d2_23) rfl k) ?_
  by_cases hc3 : x23_2 < (0 : Int32)
  · rw [if_pos hc3]
    refine OwnFin.step (g' := (mkF m 37 #[.val (.int p0), .val (.int x23_1), .val (.int x23_2)] [])) X0 (fun t k => XS.ifYes X0.here hx rfl (pc0 := 24) (pc' := 37) rfl (hb hby d2_24) rfl ((if0 _ _).trans (tlt hc3).1) (by decide) (by decide) k) ?_
    refine OwnFin.step (g' := (mkF m 38 #[.val (.int p0), .val (.int x23_1), .val (.int x23_2)] [(.int (0 : Int32))])) X0 (fun t k => XS.iconst X0.here hx rfl (hb hby d2_37) k) ?_
    exact OwnFin.retNar X0 (by simp) (hb hby d2_38) (Nat.le_refl _) (Nat.le_refl _) ⟨rfl, e0, N0⟩
  · rw [if_neg hc3]
    refine OwnFin.step (g' := (mkF m 27 #[.val (.int p0), .val (.int x23_1), .val (.int x23_2)] [])) X0 (fun t k => XS.ifNo X0.here hx rfl (hb hby d2_24) rfl ((if0 _ _).trans (flt hc3).1) k) ?_
    refine OwnFin.step (g' := (mkF m 28 #[.val (.int p0), .val (.int x23_1), .val (.int x23_2)] [(.int x23_2)])) X0 (fun t k => XS.iloadN X0.here hx rfl (hb hby d2_27) rfl k) ?_
    refine OwnFin.step (g' := (mkF m 30 #[.val (.int p0), .val (.int x23_1), .val (.int x23_2)] [(.int (6 : Int32)), (.int x23_2)])) X0 (fun t k => XS.bipush X0.here hx rfl (hb hby d2_28) k) ?_
    by_cases hc4 : x23_2 < (6 : Int32)
    · rw [if_pos hc4]
      refine OwnFin.step (g' := (mkF m 33 #[.val (.int p0), .val (.int x23_1), .val (.int x23_2)] [])) X0 (fun t k => XS.icmpNo X0.here hx rfl (hb hby d2_30) rfl (tlt hc4).2.1 k) ?_
      refine OwnFin.step (g' := (mkF m 34 #[.val (.int p0), .val (.int x23_1), .val (.int x23_2)] [(.int (1 : Int32))])) X0 (fun t k => XS.iconst X0.here hx rfl (hb hby d2_33) k) ?_
      refine OwnFin.step (g' := (mkF m 38 #[.val (.int p0), .val (.int x23_1), .val (.int x23_2)] [(.int (1 : Int32))])) X0 (fun t k => XS.goto X0.here hx rfl (pc0 := 34) (pc' := 38) rfl (hb hby d2_34) (by decide) (by decide) k) ?_
      exact OwnFin.retNar X0 (by simp) (hb hby d2_38) (Nat.le_refl _) (Nat.le_refl _) ⟨rfl, e0, N0⟩
    · rw [if_neg hc4]
      refine OwnFin.step (g' := (mkF m 37 #[.val (.int p0), .val (.int x23_1), .val (.int x23_2)] [])) X0 (fun t k => XS.icmpYes X0.here hx rfl (pc0 := 30) (pc' := 37) rfl (hb hby d2_30) rfl (flt hc4).2.1 (by decide) (by decide) k) ?_
      refine OwnFin.step (g' := (mkF m 38 #[.val (.int p0), .val (.int x23_1), .val (.int x23_2)] [(.int (0 : Int32))])) X0 (fun t k => XS.iconst X0.here hx rfl (hb hby d2_37) k) ?_
      exact OwnFin.retNar X0 (by simp) (hb hby d2_38) (Nat.le_refl _) (Nat.le_refl _) ⟨rfl, e0, N0⟩
def f2_0 (p0 : Int32) : Int32 := (if (v2_4 p0) < (0 : Int32) then (f2_23 (v2_12 p0)) else (if (v2_4 p0) < (10 : Int32) then (1 : Int32) else (f2_23 (v2_12 p0))))
set_option maxRecDepth 65536 in
set_option maxHeartbeats 40000000 in
theorem j2_0 {p : Program} {l : Launch} {e : Env} {s : State} {m : MethodId} {args : Array Value} {below : List Frame} {meth : Method} {c : Code} {T0 : State} {locs : List Loc} {Z : State} {a0 : Array Value} {h0 : Heap} {n0 : Nat}
    (X0 : Stand p l e ({ frames := 0, cells := 0, slots := 0, locals := 0 } : Room) s m args below meth c T0 locs 0 0) (hx : p.tables.exec = Jvm.exec) (hZ : Z.Warmed39 s.vm) (hw : ∀ d ∈ tables_1, d.before a0 Z = true) (hby : c.code = method_3_code) (hml : c.maxLocals = 3) (hown : s.vm.findClass "com/example/genkan/genkan/UriCharactersIsHexDigitPinLaw" = some m.cls) (e0 : T0.heap = h0) (N0 : Fr n0 locs) (Z0 : n0 ≤ h0.size) (p0 : Int32) :
    OwnFin X0 (some .boolean) (PQ (some (.int (nar .boolean (f2_0 p0)))) h0 n0) 0 0 (mkF m 0 #[.val (.int p0), .unset, .unset] []) := by
  show OwnFin X0 (some .boolean) (PQ (some (.int (nar .boolean (if (v2_4 p0) < (0 : Int32) then (f2_23 (v2_12 p0)) else (if (v2_4 p0) < (10 : Int32) then (1 : Int32) else (f2_23 (v2_12 p0))))))) h0 n0) 0 0 _
  refine OwnFin.step (g' := (mkF m 1 #[.val (.int p0), .unset, .unset] [(.int p0)])) X0 (fun t k => XS.iloadN X0.here hx rfl (hb hby d2_0) rfl k) ?_
  refine OwnFin.step (g' := (mkF m 3 #[.val (.int p0), .unset, .unset] [(.int (48 : Int32)), (.int p0)])) X0 (fun t k => XS.bipush X0.here hx rfl (hb hby d2_1) k) ?_
  refine OwnFin.step (g' := (mkF m 4 #[.val (.int p0), .unset, .unset] [(.int (p0 - (48 : Int32)))])) X0 (fun t k => XS.isub X0.here hx rfl (hb hby d2_3) rfl k) ?_
  refine OwnFin.step (g' := (mkF m 5 #[.val (.int p0), .val (.int (v2_4 p0)), .unset] [])) X0 (fun t k => XS.istoreN X0.here hx rfl (hb hby d2_4) rfl (l' := #[.val (.int p0), .val (.int (v2_4 p0)), .unset]) rfl k) ?_
  refine OwnFin.step (g' := (mkF m 6 #[.val (.int p0), .val (.int (v2_4 p0)), .unset] [(.int p0)])) X0 (fun t k => XS.iloadN X0.here hx rfl (hb hby d2_5) rfl k) ?_
  refine OwnFin.step (g' := (mkF m 8 #[.val (.int p0), .val (.int (v2_4 p0)), .unset] [(.int (32 : Int32)), (.int p0)])) X0 (fun t k => XS.bipush X0.here hx rfl (hb hby d2_6) k) ?_
  refine OwnFin.step (g' := (mkF m 9 #[.val (.int p0), .val (.int (v2_4 p0)), .unset] [(.int (p0 ||| (32 : Int32)))])) X0 (fun t k => XT.ior X0.here hx rfl (hb hby d2_8) rfl k) ?_
  refine OwnFin.step (g' := (mkF m 11 #[.val (.int p0), .val (.int (v2_4 p0)), .unset] [(.int (97 : Int32)), (.int (p0 ||| (32 : Int32)))])) X0 (fun t k => XS.bipush X0.here hx rfl (hb hby d2_9) k) ?_
  refine OwnFin.step (g' := (mkF m 12 #[.val (.int p0), .val (.int (v2_4 p0)), .unset] [(.int ((p0 ||| (32 : Int32)) - (97 : Int32)))])) X0 (fun t k => XS.isub X0.here hx rfl (hb hby d2_11) rfl k) ?_
  refine OwnFin.step (g' := (mkF m 13 #[.val (.int p0), .val (.int (v2_4 p0)), .val (.int (v2_12 p0))] [])) X0 (fun t k => XS.istoreN X0.here hx rfl (hb hby d2_12) rfl (l' := #[.val (.int p0), .val (.int (v2_4 p0)), .val (.int (v2_12 p0))]) rfl k) ?_
  refine OwnFin.step (g' := (mkF m 14 #[.val (.int p0), .val (.int (v2_4 p0)), .val (.int (v2_12 p0))] [(.int (v2_4 p0))])) X0 (fun t k => XS.iloadN X0.here hx rfl (hb hby d2_13) rfl k) ?_
  by_cases hc1 : (v2_4 p0) < (0 : Int32)
  · rw [if_pos hc1]
    refine OwnFin.step (g' := (mkF m 23 #[.val (.int p0), .val (.int (v2_4 p0)), .val (.int (v2_12 p0))] [])) X0 (fun t k => XS.ifYes X0.here hx rfl (pc0 := 14) (pc' := 23) rfl (hb hby d2_14) rfl ((if0 _ _).trans (tlt hc1).1) (by decide) (by decide) k) ?_
    exact j2_23 X0 hx hZ hw hby hml hown e0 N0 Z0 p0 (v2_4 p0) (v2_12 p0)
  · rw [if_neg hc1]
    refine OwnFin.step (g' := (mkF m 17 #[.val (.int p0), .val (.int (v2_4 p0)), .val (.int (v2_12 p0))] [])) X0 (fun t k => XS.ifNo X0.here hx rfl (hb hby d2_14) rfl ((if0 _ _).trans (flt hc1).1) k) ?_
    refine OwnFin.step (g' := (mkF m 18 #[.val (.int p0), .val (.int (v2_4 p0)), .val (.int (v2_12 p0))] [(.int (v2_4 p0))])) X0 (fun t k => XS.iloadN X0.here hx rfl (hb hby d2_17) rfl k) ?_
    refine OwnFin.step (g' := (mkF m 20 #[.val (.int p0), .val (.int (v2_4 p0)), .val (.int (v2_12 p0))] [(.int (10 : Int32)), (.int (v2_4 p0))])) X0 (fun t k => XS.bipush X0.here hx rfl (hb hby d2_18) k) ?_
    by_cases hc2 : (v2_4 p0) < (10 : Int32)
    · rw [if_pos hc2]
      refine OwnFin.step (g' := (mkF m 33 #[.val (.int p0), .val (.int (v2_4 p0)), .val (.int (v2_12 p0))] [])) X0 (fun t k => XS.icmpYes X0.here hx rfl (pc0 := 20) (pc' := 33) rfl (hb hby d2_20) rfl (tlt hc2).1 (by decide) (by decide) k) ?_
      refine OwnFin.step (g' := (mkF m 34 #[.val (.int p0), .val (.int (v2_4 p0)), .val (.int (v2_12 p0))] [(.int (1 : Int32))])) X0 (fun t k => XS.iconst X0.here hx rfl (hb hby d2_33) k) ?_
      refine OwnFin.step (g' := (mkF m 38 #[.val (.int p0), .val (.int (v2_4 p0)), .val (.int (v2_12 p0))] [(.int (1 : Int32))])) X0 (fun t k => XS.goto X0.here hx rfl (pc0 := 34) (pc' := 38) rfl (hb hby d2_34) (by decide) (by decide) k) ?_
      exact OwnFin.retNar X0 (by simp) (hb hby d2_38) (Nat.le_refl _) (Nat.le_refl _) ⟨rfl, e0, N0⟩
    · rw [if_neg hc2]
      refine OwnFin.step (g' := (mkF m 23 #[.val (.int p0), .val (.int (v2_4 p0)), .val (.int (v2_12 p0))] [])) X0 (fun t k => XS.icmpNo X0.here hx rfl (hb hby d2_20) rfl (flt hc2).1 k) ?_
      exact j2_23 X0 hx hZ hw hby hml hown e0 N0 Z0 p0 (v2_4 p0) (v2_12 p0)
def r2 (p0 : Int32) : Int32 := nar .boolean (f2_0 p0)
set_option maxRecDepth 65536 in
set_option maxHeartbeats 40000000 in
theorem rm2 (l : Launch) (Z : State) (a0 : Array Value) (hw : ∀ d ∈ tables_1, d.before a0 Z = true) (ws : List Jvm.Cond) (p0 : Int32) (h0 : Heap) (n0 : Nat) (Z0 : n0 ≤ h0.size) :
    MetFree l (⟨"com/example/genkan/genkan/UriCharactersIsHexDigitPinLaw", "reference", "(C)Z"⟩ : MethodName) (head1 (Jvm.Cond.code (⟨"com/example/genkan/genkan/UriCharactersIsHexDigitPinLaw", "reference", "(C)Z"⟩ : MethodName) method_3_code 3 (some .boolean) :: ws) ({ frames := 0, cells := 0, slots := 0, locals := 0 } : Room)) (fun a U => a = #[(.int p0)] ∧ Z.Warmed39 U.vm ∧ U.heap = h0) (fun _ _ _ _ _ => True) (fun _ U o U' => ∃ v L, o = .returned v ∧ PQ (some (.int (r2 p0))) h0 n0 v U'.heap L ∧ FrameEnd U o U' L ({ frames := 0, cells := 0, slots := 0, locals := 0 } : Room).cells ({ frames := 0, cells := 0, slots := 0, locals := 0 } : Room).slots) :=
  own_met (ret := (some .boolean)) (plainFor_of_name pn_2) (fun m => ef_2 m p0) (fun p e s m below meth c s₁ X hx hby hml hown hnm hZ e0 => OwnFin.wide (j2_0 X hx hZ hw hby hml hown e0 (Fr.nil n0) Z0 p0) (Nat.zero_le _) (Nat.zero_le _))
/-! body 0: com/example/genkan/genkan/UriCharactersIsHexDigitPinLaw.law:(II)Z -/
theorem pn_0 : plainName "com/example/genkan/genkan/UriCharactersIsHexDigitPinLaw" = true := by first | (simp [plainName, overriddenIn]; done) | decide +kernel
theorem ef_0 (m : MethodId) (p0 : Int32) (p1 : Int32) : entryFrame m #[(.int p0), (.int p1)] maxLocals = mkF m 0 #[.val (.int p0), .val (.int p1), .unset, .unset] [] := by first | (simp [entryFrame, mkF, argsToLocals, Value.category, maxLocals]; done) | rfl
theorem pd_0 : parseMethodDescriptor "(C)Z" = some ⟨[.char], some .boolean⟩ := by decide +kernel
def v0_2 (p0 : Int32) : Int32 := (p0.toUInt32.toUInt16.toUInt32.toInt32)
def v0_8 (p1 : Int32) : Int32 := ((p1 &&& (127 : Int32)).toUInt32.toUInt16.toUInt32.toInt32)
def f0_0 (p0 : Int32) (p1 : Int32) : Int32 := (if (r1 (v0_2 p0)) = (r2 (v0_2 p0)) then (if (r1 (v0_8 p1)) = (r2 (v0_8 p1)) then (1 : Int32) else (0 : Int32)) else (0 : Int32))
set_option maxRecDepth 65536 in
set_option maxHeartbeats 40000000 in
theorem j0_0 {p : Program} {l : Launch} {e : Env} {s : State} {m : MethodId} {args : Array Value} {below : List Frame} {meth : Method} {c : Code} {T0 : State} {locs : List Loc} {Z : State} {a0 : Array Value} {h0 : Heap} {n0 : Nat}
    (X0 : Stand p l e room_1 s m args below meth c T0 locs 0 0) (hx : p.tables.exec = Jvm.exec) (hZ : Z.Warmed39 s.vm) (hw : ∀ d ∈ tables_1, d.before a0 Z = true) (hby : c.code = code) (hml : c.maxLocals = 4) (hown : s.vm.findClass "com/example/genkan/genkan/UriCharactersIsHexDigitPinLaw" = some m.cls) (e0 : T0.heap = h0) (N0 : Fr n0 locs) (Z0 : n0 ≤ h0.size) (p0 : Int32) (p1 : Int32) :
    OwnFin X0 (some .boolean) (PQ (some (.int (nar .boolean (f0_0 p0 p1)))) h0 n0) 0 0 (mkF m 0 #[.val (.int p0), .val (.int p1), .unset, .unset] []) := by
  show OwnFin X0 (some .boolean) (PQ (some (.int (nar .boolean (if (r1 (v0_2 p0)) = (r2 (v0_2 p0)) then (if (r1 (v0_8 p1)) = (r2 (v0_8 p1)) then (1 : Int32) else (0 : Int32)) else (0 : Int32))))) h0 n0) 0 0 _
  refine OwnFin.step (g' := (mkF m 1 #[.val (.int p0), .val (.int p1), .unset, .unset] [(.int p0)])) X0 (fun t k => XS.iloadN X0.here hx rfl (hb hby at_0) rfl k) ?_
  refine OwnFin.step (g' := (mkF m 2 #[.val (.int p0), .val (.int p1), .unset, .unset] [(.int (p0.toUInt32.toUInt16.toUInt32.toInt32))])) X0 (fun t k => XT.i2c X0.here hx rfl (hb hby at_1) rfl k) ?_
  refine OwnFin.step (g' := (mkF m 3 #[.val (.int p0), .val (.int p1), .val (.int (v0_2 p0)), .unset] [])) X0 (fun t k => XS.istoreN X0.here hx rfl (hb hby at_2) rfl (l' := #[.val (.int p0), .val (.int p1), .val (.int (v0_2 p0)), .unset]) rfl k) ?_
  refine OwnFin.step (g' := (mkF m 4 #[.val (.int p0), .val (.int p1), .val (.int (v0_2 p0)), .unset] [(.int p1)])) X0 (fun t k => XS.iloadN X0.here hx rfl (hb hby at_3) rfl k) ?_
  refine OwnFin.step (g' := (mkF m 6 #[.val (.int p0), .val (.int p1), .val (.int (v0_2 p0)), .unset] [(.int (127 : Int32)), (.int p1)])) X0 (fun t k => XS.bipush X0.here hx rfl (hb hby at_4) k) ?_
  refine OwnFin.step (g' := (mkF m 7 #[.val (.int p0), .val (.int p1), .val (.int (v0_2 p0)), .unset] [(.int (p1 &&& (127 : Int32)))])) X0 (fun t k => XS.iand X0.here hx rfl (hb hby at_6) rfl k) ?_
  refine OwnFin.step (g' := (mkF m 8 #[.val (.int p0), .val (.int p1), .val (.int (v0_2 p0)), .unset] [(.int ((p1 &&& (127 : Int32)).toUInt32.toUInt16.toUInt32.toInt32))])) X0 (fun t k => XT.i2c X0.here hx rfl (hb hby at_7) rfl k) ?_
  refine OwnFin.step (g' := (mkF m 9 #[.val (.int p0), .val (.int p1), .val (.int (v0_2 p0)), .val (.int (v0_8 p1))] [])) X0 (fun t k => XS.istoreN X0.here hx rfl (hb hby at_8) rfl (l' := #[.val (.int p0), .val (.int p1), .val (.int (v0_2 p0)), .val (.int (v0_8 p1))]) rfl k) ?_
  refine OwnFin.step (g' := (mkF m 10 #[.val (.int p0), .val (.int p1), .val (.int (v0_2 p0)), .val (.int (v0_8 p1))] [(.int (v0_2 p0))])) X0 (fun t k => XS.iloadN X0.here hx rfl (hb hby at_9) rfl k) ?_
  obtain ⟨_, T1, L1, X1, ⟨rfl, f1, N1q⟩, st1⟩ := own_callS X0 hx hZ (y := (⟨"com/example/genkan/genkan/UriCharacters", "isHexDigit", "(C)Z"⟩ : MethodName)) (W := 0) (argsL := [(.int (v0_2 p0))]) (rest := []) (Qc := PQ _ _ n0) hown (hw _ (List.mem_of_getElem? (i := 0) rfl)) (hw _ (List.mem_of_getElem? (i := 1) rfl)) (hw _ (List.mem_of_getElem? (i := 2) rfl)) (hw _ (List.mem_of_getElem? (i := 3) rfl)) (by decide) (rm1 l Z a0 hw [] (v0_2 p0) h0 n0 Z0) (by decide) (by decide) (by decide) (by decide) e0 (g := (mkF m 10 #[.val (.int p0), .val (.int p1), .val (.int (v0_2 p0)), .val (.int (v0_8 p1))] [(.int (v0_2 p0))])) rfl (by rw [hml]; rfl) pd_0 rfl rfl (by show 2 * 0 + _ ≤ _; exact Nat.le_of_eq rfl) (hb hby at_10)
  have N1 := Fr.app N0 N1q
  refine OwnFin.step (g' := (mkF m 13 #[.val (.int p0), .val (.int p1), .val (.int (v0_2 p0)), .val (.int (v0_8 p1))] [(.int (r1 (v0_2 p0)))])) X1 (fun t k => st1 _ k) ?_
  refine OwnFin.step (g' := (mkF m 14 #[.val (.int p0), .val (.int p1), .val (.int (v0_2 p0)), .val (.int (v0_8 p1))] [(.int (v0_2 p0)), (.int (r1 (v0_2 p0)))])) X1 (fun t k => XS.iloadN X1.here hx rfl (hb hby at_13) rfl k) ?_
  obtain ⟨_, T2, L2, X2, ⟨rfl, f2, N2q⟩, st2⟩ := own_callS X1 hx hZ (y := (⟨"com/example/genkan/genkan/UriCharactersIsHexDigitPinLaw", "reference", "(C)Z"⟩ : MethodName)) (W := 1) (argsL := [(.int (v0_2 p0))]) (rest := [(.int (r1 (v0_2 p0)))]) (Qc := PQ _ _ n0) hown (hw _ (List.mem_of_getElem? (i := 4) rfl)) (hw _ (List.mem_of_getElem? (i := 5) rfl)) (hw _ (List.mem_of_getElem? (i := 6) rfl)) (hw _ (List.mem_of_getElem? (i := 7) rfl)) (by decide) (rm2 l Z a0 hw [] (v0_2 p0) h0 n0 Z0) (by decide) (by decide) (by decide) (by decide) f1 (g := (mkF m 14 #[.val (.int p0), .val (.int p1), .val (.int (v0_2 p0)), .val (.int (v0_8 p1))] [(.int (v0_2 p0)), (.int (r1 (v0_2 p0)))])) rfl (by rw [hml]; rfl) pd_0 rfl rfl (by show 2 * 0 + _ ≤ _; exact Nat.le_of_eq rfl) (hb hby at_14)
  have N2 := Fr.app N1 N2q
  refine OwnFin.step (g' := (mkF m 17 #[.val (.int p0), .val (.int p1), .val (.int (v0_2 p0)), .val (.int (v0_8 p1))] [(.int (r2 (v0_2 p0))), (.int (r1 (v0_2 p0)))])) X2 (fun t k => st2 _ k) ?_
  by_cases hc3 : (r1 (v0_2 p0)) = (r2 (v0_2 p0))
  · rw [if_pos hc3]
    refine OwnFin.step (g' := (mkF m 20 #[.val (.int p0), .val (.int p1), .val (.int (v0_2 p0)), .val (.int (v0_8 p1))] [])) X2 (fun t k => XS.icmpNo X2.here hx rfl (hb hby at_17) rfl (teq hc3).2 k) ?_
    refine OwnFin.step (g' := (mkF m 21 #[.val (.int p0), .val (.int p1), .val (.int (v0_2 p0)), .val (.int (v0_8 p1))] [(.int (v0_8 p1))])) X2 (fun t k => XS.iloadN X2.here hx rfl (hb hby at_20) rfl k) ?_
    obtain ⟨_, T4, L4, X4, ⟨rfl, f4, N4q⟩, st4⟩ := own_callS X2 hx hZ (y := (⟨"com/example/genkan/genkan/UriCharacters", "isHexDigit", "(C)Z"⟩ : MethodName)) (W := 0) (argsL := [(.int (v0_8 p1))]) (rest := []) (Qc := PQ _ _ n0) hown (hw _ (List.mem_of_getElem? (i := 0) rfl)) (hw _ (List.mem_of_getElem? (i := 1) rfl)) (hw _ (List.mem_of_getElem? (i := 2) rfl)) (hw _ (List.mem_of_getElem? (i := 3) rfl)) (by decide) (rm1 l Z a0 hw [] (v0_8 p1) h0 n0 Z0) (by decide) (by decide) (by decide) (by decide) f2 (g := (mkF m 21 #[.val (.int p0), .val (.int p1), .val (.int (v0_2 p0)), .val (.int (v0_8 p1))] [(.int (v0_8 p1))])) rfl (by rw [hml]; rfl) pd_0 rfl rfl (by show 2 * 0 + _ ≤ _; exact Nat.le_of_eq rfl) (hb hby at_21)
    have N4 := Fr.app N2 N4q
    refine OwnFin.step (g' := (mkF m 24 #[.val (.int p0), .val (.int p1), .val (.int (v0_2 p0)), .val (.int (v0_8 p1))] [(.int (r1 (v0_8 p1)))])) X4 (fun t k => st4 _ k) ?_
    refine OwnFin.step (g' := (mkF m 25 #[.val (.int p0), .val (.int p1), .val (.int (v0_2 p0)), .val (.int (v0_8 p1))] [(.int (v0_8 p1)), (.int (r1 (v0_8 p1)))])) X4 (fun t k => XS.iloadN X4.here hx rfl (hb hby at_24) rfl k) ?_
    obtain ⟨_, T5, L5, X5, ⟨rfl, f5, N5q⟩, st5⟩ := own_callS X4 hx hZ (y := (⟨"com/example/genkan/genkan/UriCharactersIsHexDigitPinLaw", "reference", "(C)Z"⟩ : MethodName)) (W := 1) (argsL := [(.int (v0_8 p1))]) (rest := [(.int (r1 (v0_8 p1)))]) (Qc := PQ _ _ n0) hown (hw _ (List.mem_of_getElem? (i := 4) rfl)) (hw _ (List.mem_of_getElem? (i := 5) rfl)) (hw _ (List.mem_of_getElem? (i := 6) rfl)) (hw _ (List.mem_of_getElem? (i := 7) rfl)) (by decide) (rm2 l Z a0 hw [] (v0_8 p1) h0 n0 Z0) (by decide) (by decide) (by decide) (by decide) f4 (g := (mkF m 25 #[.val (.int p0), .val (.int p1), .val (.int (v0_2 p0)), .val (.int (v0_8 p1))] [(.int (v0_8 p1)), (.int (r1 (v0_8 p1)))])) rfl (by rw [hml]; rfl) pd_0 rfl rfl (by show 2 * 0 + _ ≤ _; exact Nat.le_of_eq rfl) (hb hby at_25)
    have N5 := Fr.app N4 N5q
    refine OwnFin.step (g' := (mkF m 28 #[.val (.int p0), .val (.int p1), .val (.int (v0_2 p0)), .val (.int (v0_8 p1))] [(.int (r2 (v0_8 p1))), (.int (r1 (v0_8 p1)))])) X5 (fun t k => st5 _ k) ?_
    by_cases hc6 : (r1 (v0_8 p1)) = (r2 (v0_8 p1))
    · rw [if_pos hc6]
      refine OwnFin.step (g' := (mkF m 31 #[.val (.int p0), .val (.int p1), .val (.int (v0_2 p0)), .val (.int (v0_8 p1))] [])) X5 (fun t k => XS.icmpNo X5.here hx rfl (hb hby at_28) rfl (teq hc6).2 k) ?_
      refine OwnFin.step (g' := (mkF m 32 #[.val (.int p0), .val (.int p1), .val (.int (v0_2 p0)), .val (.int (v0_8 p1))] [(.int (1 : Int32))])) X5 (fun t k => XS.iconst X5.here hx rfl (hb hby at_31) k) ?_
      refine OwnFin.step (g' := (mkF m 36 #[.val (.int p0), .val (.int p1), .val (.int (v0_2 p0)), .val (.int (v0_8 p1))] [(.int (1 : Int32))])) X5 (fun t k => XS.goto X5.here hx rfl (pc0 := 32) (pc' := 36) rfl (hb hby at_32) (by decide) (by decide) k) ?_
      exact OwnFin.retNar X5 (by simp) (hb hby at_36) (Nat.le_refl _) (Nat.le_refl _) ⟨rfl, f5, N5⟩
    · rw [if_neg hc6]
      refine OwnFin.step (g' := (mkF m 35 #[.val (.int p0), .val (.int p1), .val (.int (v0_2 p0)), .val (.int (v0_8 p1))] [])) X5 (fun t k => XS.icmpYes X5.here hx rfl (pc0 := 28) (pc' := 35) rfl (hb hby at_28) rfl (feq hc6).2 (by decide) (by decide) k) ?_
      refine OwnFin.step (g' := (mkF m 36 #[.val (.int p0), .val (.int p1), .val (.int (v0_2 p0)), .val (.int (v0_8 p1))] [(.int (0 : Int32))])) X5 (fun t k => XS.iconst X5.here hx rfl (hb hby at_35) k) ?_
      exact OwnFin.retNar X5 (by simp) (hb hby at_36) (Nat.le_refl _) (Nat.le_refl _) ⟨rfl, f5, N5⟩
  · rw [if_neg hc3]
    refine OwnFin.step (g' := (mkF m 35 #[.val (.int p0), .val (.int p1), .val (.int (v0_2 p0)), .val (.int (v0_8 p1))] [])) X2 (fun t k => XS.icmpYes X2.here hx rfl (pc0 := 17) (pc' := 35) rfl (hb hby at_17) rfl (feq hc3).2 (by decide) (by decide) k) ?_
    refine OwnFin.step (g' := (mkF m 36 #[.val (.int p0), .val (.int p1), .val (.int (v0_2 p0)), .val (.int (v0_8 p1))] [(.int (0 : Int32))])) X2 (fun t k => XS.iconst X2.here hx rfl (hb hby at_35) k) ?_
    exact OwnFin.retNar X2 (by simp) (hb hby at_36) (Nat.le_refl _) (Nat.le_refl _) ⟨rfl, f2, N2⟩
def r0 (p0 : Int32) (p1 : Int32) : Int32 := nar .boolean (f0_0 p0 p1)
set_option maxRecDepth 65536 in
set_option maxHeartbeats 40000000 in
theorem rm0 (l : Launch) (Z : State) (a0 : Array Value) (hw : ∀ d ∈ tables_1, d.before a0 Z = true) (ws : List Jvm.Cond) (p0 : Int32) (p1 : Int32) (h0 : Heap) (n0 : Nat) (Z0 : n0 ≤ h0.size) :
    MetFree l x (head1 (Jvm.Cond.code x code maxLocals ret :: ws) room_1) (fun a U => a = #[(.int p0), (.int p1)] ∧ Z.Warmed39 U.vm ∧ U.heap = h0) (fun _ _ _ _ _ => True) (fun _ U o U' => ∃ v L, o = .returned v ∧ PQ (some (.int (r0 p0 p1))) h0 n0 v U'.heap L ∧ FrameEnd U o U' L room_1.cells room_1.slots) :=
  own_met (ret := ret) (plainFor_of_name pn_0) (fun m => ef_0 m p0 p1) (fun p e s m below meth c s₁ X hx hby hml hown hnm hZ e0 => OwnFin.wide (j0_0 X hx hZ hw hby hml hown e0 (Fr.nil n0) Z0 p0 p1) (Nat.zero_le _) (Nat.zero_le _))
theorem own_r (c : Int32) (h0 : 0 ≤ c.toInt) (h1 : c.toInt < 65536) : r1 c = r2 c := by
  unfold r1 r2 f1_0 f1_12 f1_24 f2_0 f2_23 v2_4 v2_12
  have a1 : (48 : Int32).toInt = 48 := rfl
  have a2 : (97 : Int32).toInt = 97 := rfl
  have b1 : (c - 48).toInt = c.toInt - (48 : Int32).toInt := Jvm.Kit.i32_sub (by rw [a1]; omega) (by rw [a1]; omega)
  have b0 := or32 c
  have b2 : ((c ||| 32) - 97).toInt = (c ||| 32).toInt - (97 : Int32).toInt := Jvm.Kit.i32_sub (by rw [a2]; split at b0 <;> omega) (by rw [a2]; split at b0 <;> omega)
  rw [a1] at b1
  rw [a2, b0] at b2
  have a3 : (57 : Int32).toInt = 57 := rfl
  have a4 : (65 : Int32).toInt = 65 := rfl
  have a5 : (70 : Int32).toInt = 70 := rfl
  have a6 : (102 : Int32).toInt = 102 := rfl
  have a7 : (0 : Int32).toInt = 0 := rfl
  have a8 : (10 : Int32).toInt = 10 := rfl
  have a9 : (6 : Int32).toInt = 6 := rfl
  simp only [i32lt, a1, a2, a3, a4, a5, a6, a7, a8, a9, b1, b2]
  repeat' split
  all_goals first | rfl | (exfalso; omega)
theorem law_true (p0 p1 : Int32) : r0 p0 p1 = 1 := by
  have h : ∀ x : Int32, r1 (x.toUInt32.toUInt16.toUInt32.toInt32) = r2 (x.toUInt32.toUInt16.toUInt32.toInt32) := fun x => own_r _ (by rw [i2c_toInt]; omega) (by rw [i2c_toInt]; omega)
  unfold r0 f0_0 v0_2 v0_8
  rw [if_pos (h _), if_pos (h _)]
  decide
set_option maxRecDepth 65536 in
set_option maxHeartbeats 40000000 in
theorem comes_1 {Post : Tables → Env → Array Value → State → Outcome → State → Prop} (hpost : ∀ tb e args s v u, (limb_1_1.after args s (.returned v) u = true ∧ limb_1_2.after args s (.returned v) u = true ∧ True) → FrameEnd s (.returned v) u (Jvm.fieldLocs frame_1_writes args s ++ Jvm.arrayLocs frame_1_arrays args s ++ Jvm.staticLocs frame_1_statics s) 0 0 → Post tb e args s (.returned v) u) :
    ArmFor flags0 classFile x code maxLocals ret World_1 tables_1 room_1 Calls_1 rest_1 Pre_1 Post := by
  intro l hfl _ _ p e ha hc hk s m args below hf hA hF happ hP
  obtain ⟨hcalls, hrest, hpre⟩ := hP
  obtain ⟨-, -, -, hnamed, -, -, -, hat⟩ := (Spec.applies_iff hf).mp happ
  obtain ⟨hg, hn⟩ := and_e (Cond.before_iff.mp (show (Jvm.Cond.and given_1 narrow_1).before args s = true from hpre))
  obtain ⟨g1, g2⟩ := and_e hg
  obtain ⟨g3, g4⟩ := and_e g2
  obtain ⟨w0, w1, rfl⟩ : ∃ w0 w1 : Value, args = #[w0, w1] := by
    have hs : args.size = 2 := by simpa [Cond.value, given_1] using g1
    obtain ⟨L⟩ := args
    match L, hs with
    | [w0, w1], _ => exact ⟨w0, w1, rfl⟩
  have hw := fun d (hd : d ∈ tables_1) => atoms_spec (ws := Jvm.Cond.code x code maxLocals ret :: tables_1) hat d (List.mem_cons_of_mem _ hd)
  obtain ⟨i0, ei0⟩ := is_v g3
  obtain rfl : w0 = (.int i0) := Option.some.inj ei0
  obtain ⟨i1, ei1⟩ := is_v g4
  obtain rfl : w1 = (.int i1) := Option.some.inj ei1
  have hm := rm0 l s _ hw tables_1 i0 i1 s.heap s.heap.size (Nat.le_refl _)
  rw [law_true i0 i1] at hm
  obtain ⟨n, o, h1, h2, h3, _, L, rfl, ⟨rfl, hh, N⟩, hq⟩ := hm p e ha hc hk s m _ below hf ((Spec.applies_iff_loose hf).mp happ).1 ⟨rfl, State.Warmed39.refl s, rfl⟩ trivial
  refine ⟨n, _, h1, h2, h3, hpost _ _ _ _ _ _ ⟨Cond.after_iff.mpr rfl, Cond.after_iff.mpr (eq_i res_at (Term.int_eval (1)) rfl), trivial⟩ ⟨hq.1, hq.2.1, (hq.2.2.sift fun y hy => Or.inr (N y hy)).mono (by decide) (by decide)⟩⟩
theorem main_1_1 : Claimed_1_1 := comes_1 fun _ _ _ _ _ _ h hF => ⟨h.1, hF⟩
theorem main_1_2 : Claimed_1_2 := comes_1 fun _ _ _ _ _ _ h hF => ⟨h.2.1, hF⟩
end Jvm.Pilot.@@N@@
namespace Jvm.Pilot.@@N@@
open Jvm Jvm.ClassFile Sem Op Lib Jvm.Free Jvm.Stand Jvm.Pilot.@@N@@.Jvm.D
/-! MADE BY PROGRAM (witnessworld.py) out of the Statement's table words and the real class files: 9 classes; the members and pool entries that the words name. The judged class is class 1, her method 1. -/
namespace start1
open Jvm.ClassFile
def u (s : String) : CpInfo := .utf8 (stringToUtf16 s)
/-- a pool by its gaps: so many unusable entries, then the entry; so many at the end -/
def gap : Nat → List CpInfo → List CpInfo
  | 0, r => r
  | n + 1, r => .unusable :: gap n r
def poolList (es : List (Nat × CpInfo)) (last : Nat) : List CpInfo := es.foldr (fun e r => gap e.1 (e.2 :: r)) (gap last [])
def pool (es : List (Nat × CpInfo)) (last : Nat) : Array CpInfo := ⟨poolList es last⟩
def fileOf (pool : Array CpInfo) (this : Nat) (attrs : Array Attribute := #[]) (ms : Array MethodInfo := #[]) (fl : Nat := 33) (sup : Nat := 0) (ifs : Array Nat := #[]) (fds : Array FieldInfo := #[]) : ClassFile where
  minorVersion := 0
  majorVersion := 65
  constantPool := pool
  accessFlags := fl
  thisClass := this
  superClass := sup
  interfaces := ifs
  fields := fds
  methods := ms
  attributes := attrs
def plain (name : String) (sup : Option ClassId) : Class where
  name := name
  kind := .ordinary
  loader := none
  accessFlags := 33
  super := sup
  interfaces := #[]
  cf := none
  fields := #[]
  methods := #[]
  instanceTypes := #[]
  staticTypes := #[]
  resolved := #[]
  callSites := []
  init := .initialized
  statics := none
  mirror := none

def pool0 : Array CpInfo := pool [(5, u "<init>"), (0, u "()V"), (1, .class_ 10), (1, u "java/lang/Object")] 113

def k0m0 : Method := { name := "<init>", desc := "()V", sig := { parameters := [], returnType := none }, accessFlags := 1, code := none }
/-- java/lang/Object -/
def k0 : Class := { plain "java/lang/Object" none with
  accessFlags := 33
  interfaces := #[]
  cf := some (fileOf pool0 8 #[] #[{ accessFlags := 1, nameIndex := 5, descriptorIndex := 6, attributes := #[] }] 33 0 #[] #[])
  fields := #[]
  methods := #[k0m0]
  instanceTypes := #[]
  staticTypes := #[]
  resolved := Array.replicate 124 none
  statics := none }

def pool1 : Array CpInfo := pool [(2, .class_ 4), (1, u "java/lang/Object"), (0, u "<init>"), (0, u "()V"), (0, .methodref 8 9), (0, .class_ 10), (0, .nameAndType 11 12), (0, u "com/example/genkan/genkan/UriCharacters"), (0, u "isHexDigit"), (0, u "(C)Z"), (0, .methodref 14 15), (0, .class_ 16), (0, .nameAndType 17 12), (0, u "com/example/genkan/genkan/UriCharactersIsHexDigitPinLaw"), (0, u "reference"), (2, u "law"), (0, u "(II)Z")] 3

def k1m0 : Method := { name := "<init>", desc := "()V", sig := { parameters := [], returnType := none }, accessFlags := 2, code := none }
def k1c1 : Code := { maxStack := 2, maxLocals := 4, code := code, exceptionTable := #[], attributes := #[] }
def k1m1 : Method := { name := "law", desc := "(II)Z", sig := { parameters := [.int, .int], returnType := some .boolean }, accessFlags := 9, code := some k1c1 }
def k1c2 : Code := { maxStack := 2, maxLocals := 3, code := method_3_code, exceptionTable := #[], attributes := #[] }
def k1m2 : Method := { name := "reference", desc := "(C)Z", sig := { parameters := [.char], returnType := some .boolean }, accessFlags := 10, code := some k1c2 }
/-- com/example/genkan/genkan/UriCharactersIsHexDigitPinLaw -/
def k1 : Class := { plain "com/example/genkan/genkan/UriCharactersIsHexDigitPinLaw" (some 0) with
  accessFlags := 49
  interfaces := #[]
  cf := some (fileOf pool1 14 #[] #[{ accessFlags := 2, nameIndex := 5, descriptorIndex := 6, attributes := #[] }, { accessFlags := 9, nameIndex := 20, descriptorIndex := 21, attributes := #[] }, { accessFlags := 10, nameIndex := 17, descriptorIndex := 12, attributes := #[] }] 49 2 #[] #[])
  fields := #[]
  methods := #[k1m0, k1m1, k1m2]
  instanceTypes := #[]
  staticTypes := #[]
  resolved := Array.replicate 25 none
  statics := none }

def pool2 : Array CpInfo := pool [(2, .class_ 4), (1, u "java/lang/Object"), (0, u "<init>"), (0, u "()V"), (10, .class_ 19), (1, u "com/example/genkan/genkan/UriCharacters"), (50, u "isHexDigit"), (0, u "(C)Z"), (55, .class_ 129), (1, u "com/example/genkan/genkan/UriCharacters$Kept"), (47, u "HEX"), (0, u "[C"), (6, u "GEN_DELIMS"), (0, u "Ljava/lang/String;"), (1, u "SUB_DELIMS"), (19, .class_ 209), (0, u "com/example/genkan/genkan/UriCharacters$AsciiSet")] 19

def k2m0 : Method := { name := "<init>", desc := "()V", sig := { parameters := [], returnType := none }, accessFlags := 2, code := none }
def k2c1 : Code := { maxStack := 2, maxLocals := 1, code := prog_9_method_7_code, exceptionTable := #[], attributes := #[] }
def k2m1 : Method := { name := "isHexDigit", desc := "(C)Z", sig := { parameters := [.char], returnType := some .boolean }, accessFlags := 8, code := some k2c1 }
/-- com/example/genkan/genkan/UriCharacters -/
def k2 : Class := { plain "com/example/genkan/genkan/UriCharacters" (some 0) with
  accessFlags := 48
  interfaces := #[]
  cf := some (fileOf pool2 17 #[.nestMembers #[208, 127]] #[{ accessFlags := 2, nameIndex := 5, descriptorIndex := 6, attributes := #[] }, { accessFlags := 8, nameIndex := 70, descriptorIndex := 71, attributes := #[] }] 48 2 #[] #[{ accessFlags := 26, nameIndex := 177, descriptorIndex := 178, attributes := #[] }, { accessFlags := 26, nameIndex := 185, descriptorIndex := 186, attributes := #[] }, { accessFlags := 26, nameIndex := 188, descriptorIndex := 186, attributes := #[] }])
  fields := #[{ name := "HEX", type := (.array .char), accessFlags := 26, slot := 0, constantValue := 0 }, { name := "GEN_DELIMS", type := (.object "java/lang/String"), accessFlags := 26, slot := 1, constantValue := 0 }, { name := "SUB_DELIMS", type := (.object "java/lang/String"), accessFlags := 26, slot := 2, constantValue := 0 }]
  methods := #[k2m0, k2m1]
  instanceTypes := #[]
  staticTypes := #[(.array .char), (.object "java/lang/String"), (.object "java/lang/String")]
  resolved := Array.replicate 229 none
  statics := none }

def pool3 : Array CpInfo := pool [(1, u "java/lang/Cloneable"), (0, .class_ 1), (0, u "java/lang/Object"), (0, .class_ 3)] 3

/-- java/lang/Cloneable -/
def k3 : Class := { plain "java/lang/Cloneable" (some 0) with
  accessFlags := 1537
  interfaces := #[]
  cf := some (fileOf pool3 2 #[] #[] 1537 4 #[] #[])
  fields := #[]
  methods := #[]
  instanceTypes := #[]
  staticTypes := #[]
  resolved := Array.replicate 8 none
  statics := none }

def pool4 : Array CpInfo := pool [(1, u "java/io/Serializable"), (0, .class_ 1), (0, u "java/lang/Object"), (0, .class_ 3)] 3

/-- java/io/Serializable -/
def k4 : Class := { plain "java/io/Serializable" (some 0) with
  accessFlags := 1537
  interfaces := #[]
  cf := some (fileOf pool4 2 #[] #[] 1537 4 #[] #[])
  fields := #[]
  methods := #[]
  instanceTypes := #[]
  staticTypes := #[]
  resolved := Array.replicate 8 none
  statics := none }

/-- the primitive byte -/
def k5 : Class := { plain "byte" none with kind := .primitive 'B', accessFlags := 0x411 }
/-- [B -/
def k6 : Class := { plain "[B" (some 0) with kind := .array 5 .byte, interfaces := #[3, 4], accessFlags := 1041 }

/-- the primitive int -/
def k7 : Class := { plain "int" none with kind := .primitive 'I', accessFlags := 0x411 }
/-- [I -/
def k8 : Class := { plain "[I" (some 0) with kind := .array 7 .int, interfaces := #[3, 4], accessFlags := 1041 }

def heap : Heap := #[]
def classes : Array Class := #[k0, k1, k2, k3, k4, k5, k6, k7, k8]
def interned : List (Array UInt16 × Addr) := []
def slotsUsed : Nat := 0
def theMethod : MethodId := ⟨1, 1⟩
def args0 : Array Value := #[.int 5, .int 6]
def aboutOver (below : List Frame) : State where
  vm := { classes := classes, interned := interned.toArray }
  heap := heap
  slotsUsed := slotsUsed
  threads := #[{ frames := .invoking theMethod args0 :: below }]
def below0 : List Frame := [.native { method := ⟨0, 0⟩, args := #[] }]
def about1 : State := aboutOver below0
def p0 : Program := .bare "" "" ""
def e0 : Env := launch0.env 0 0 0
theorem w_frames : about1.frames = Frame.invoking theMethod args0 :: below0 := rfl
set_option maxRecDepth 65536 in
theorem w_args : argsFit about1.vm theMethod args0 = true := by decide +kernel
set_option maxRecDepth 65536 in
theorem w_heap : heapFits about1 = true := by decide +kernel
set_option maxRecDepth 65536 in
theorem w_runnable : about1.curStatus? = some .runnable := by decide +kernel
set_option maxRecDepth 65536 in
theorem w_alone : about1.alone = true := by decide +kernel
set_option maxRecDepth 65536 in
theorem w_named : about1.methodNamed? x = some theMethod := by decide +kernel
set_option maxRecDepth 65536 in
theorem w_hears : about1.hears theMethod below0 = true := by decide +kernel
set_option maxRecDepth 65536 in
theorem w_ripe : about1.ripe theMethod args0 below0 = true := by decide +kernel
theorem w_running : about1.status = .running := rfl
set_option maxRecDepth 65536 in
theorem w_room : about1.hasRoom e0.platform room_1 = true :=
  launch0.hasRoom_least _ room_1 (by decide +kernel) (by decide +kernel) (by decide +kernel) (by decide +kernel) (by decide +kernel) (by decide +kernel)
theorem allAtoms_all (ts : List Jvm.Cond) (a : Array Jvm.Value) (st : Jvm.State) : (allAtoms ts).before a st = ts.all (fun c => c.before a st) := by
  induction ts with
  | nil => rfl
  | cons c t ih =>
    show (Jvm.Cond.and c (allAtoms t)).before a st = _
    rw [Jvm.Cond.before_and, ih, List.all_cons]
def words1 : List Jvm.Cond := Jvm.Cond.code x code maxLocals ret :: tables_1
/-- a 'code' word, met by the world's own term for the bytes: nothing is compared byte by byte -/
theorem code_word {y : MethodName} {bytes : ByteArray} {mx : Nat} {rt : Option FieldType} {a : Array Value} {s : State} {m : MethodId} {meth : Method} {c : Code} (h1 : s.methodNamed? y = some m) (h2 : s.vm.method? m = some meth) (h3 : meth.code = some c) (h4 : c.code = bytes)
    (h5 : (c.maxLocals == mx && c.exceptionTable.isEmpty && decide (c.maxStack ≤ mostOperands) && decide (meth.sig.returnType = rt) && !meth.locks && decide (parseMethodDescriptor y.desc = some meth.sig)) = true) : (Jvm.Cond.code y bytes mx rt).before a s = true := by
  simp only [Bool.and_eq_true, beq_iff_eq, Bool.not_eq_true', decide_eq_true_eq] at h5
  obtain ⟨⟨⟨⟨⟨g1, g2⟩, g3⟩, g4⟩, g5⟩, g6⟩ := h5
  simp [Cond.before, Cond.holds, Cond.value, h1, h2, h3, h4, g1, g2, g3, g4, g5, g6]
def isCode : Jvm.Cond → Bool
  | .code _ _ _ _ => true
  | _ => false
theorem all_split {L : List Jvm.Cond} {P : Jvm.Cond → Bool} (h1 : L.all (fun c => isCode c || P c) = true) (h2 : ∀ c ∈ L.filter isCode, P c = true) : L.all P = true := by
  refine List.all_eq_true.mpr fun c hc => ?_
  have h := List.all_eq_true.mp h1 c hc
  rcases Bool.eq_false_or_eq_true (isCode c) with hi | hi
  · exact h2 c (List.mem_filter.mpr ⟨hc, hi⟩)
  · simpa [hi] using h
set_option maxRecDepth 65536 in
theorem w_c0 : (Jvm.Cond.code x code maxLocals ret).before args0 about1 = true := code_word (m := ⟨1, 1⟩) (meth := k1m1) (c := k1c1) (by decide +kernel) rfl rfl rfl (by decide +kernel)
set_option maxRecDepth 65536 in
theorem w_c1 : (Jvm.Cond.code ({ cls := "com/example/genkan/genkan/UriCharacters", name := "isHexDigit", desc := "(C)Z" } : Jvm.MethodName) prog_9_method_7_code (1 : Nat) (Option.some Jvm.ClassFile.FieldType.boolean)).before args0 about1 = true := code_word (m := ⟨2, 1⟩) (meth := k2m1) (c := k2c1) (by decide +kernel) rfl rfl rfl (by decide +kernel)
set_option maxRecDepth 65536 in
theorem w_c2 : (Jvm.Cond.code ({ cls := "com/example/genkan/genkan/UriCharactersIsHexDigitPinLaw", name := "reference", desc := "(C)Z" } : Jvm.MethodName) method_3_code (3 : Nat) (Option.some Jvm.ClassFile.FieldType.boolean)).before args0 about1 = true := code_word (m := ⟨1, 2⟩) (meth := k1m2) (c := k1c2) (by decide +kernel) rfl rfl rfl (by decide +kernel)
def codes1 : List Jvm.Cond := [Jvm.Cond.code x code maxLocals ret, Jvm.Cond.code ({ cls := "com/example/genkan/genkan/UriCharacters", name := "isHexDigit", desc := "(C)Z" } : Jvm.MethodName) prog_9_method_7_code (1 : Nat) (Option.some Jvm.ClassFile.FieldType.boolean), Jvm.Cond.code ({ cls := "com/example/genkan/genkan/UriCharactersIsHexDigitPinLaw", name := "reference", desc := "(C)Z" } : Jvm.MethodName) method_3_code (3 : Nat) (Option.some Jvm.ClassFile.FieldType.boolean)]
set_option maxRecDepth 65536 in
theorem codes_eq : words1.filter isCode = codes1 := rfl
theorem w_codes : ∀ c ∈ words1.filter isCode, c.before args0 about1 = true := by
  rw [codes_eq]
  intro c hc
  simp only [codes1, List.mem_cons, List.not_mem_nil, or_false] at hc
  rcases hc with rfl | rfl | rfl
  · exact w_c0
  · exact w_c1
  · exact w_c2
set_option maxRecDepth 65536 in
theorem w_t1 : words1.all (fun c => isCode c || c.before args0 about1) = true := by decide +kernel
theorem w_tables : (allAtoms (Jvm.Cond.code x code maxLocals ret :: tables_1)).before args0 about1 = true := by
  rw [allAtoms_all]
  show words1.all (fun c => c.before args0 about1) = true
  refine all_split ?_ w_codes
  rw [w_t1]
set_option maxRecDepth 65536 in
theorem w_case : (Jvm.Cond.and given_1 narrow_1).before args0 about1 = true := by decide +kernel
theorem w_applies : (headSpec (Jvm.Cond.code x code maxLocals ret :: tables_1) room_1).applies x e0.platform about1 = true :=
  (Spec.applies_iff w_frames).mpr ⟨w_running, w_runnable, w_alone, w_named, w_hears, w_ripe, w_room, w_tables⟩
theorem atStart : AtStart classFile x code maxLocals ret World_1 tables_1 room_1 Calls_1 rest_1 Pre_1 launch0 p0 e0 about1 theMethod args0 below0 :=
  ⟨lists_1, trivial, launch0.admits_env _ _ _, launch0.least_env, fairChoices_fair.cas, fairChoices_fair.clock, w_frames, w_args, w_heap, w_applies, trivial, trivial, w_case⟩
end start1
theorem witness_1 : WitnessClaimed_1 := ⟨start1.p0, start1.e0, start1.about1, start1.theMethod, start1.args0, start1.below0, start1.atStart⟩
end Jvm.Pilot.@@N@@
