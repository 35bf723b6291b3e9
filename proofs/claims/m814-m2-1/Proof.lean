import JvmDerived
import JvmDerived.Pilot.@@N@@Statement
import JvmDerived.Pilot.@@N@@Code
set_option linter.unusedVariables false
set_option linter.unusedSimpArgs false
@@BLOCK:NumsL.lean.txt@@
namespace Jvm.RoadKit
open Sem ClassFile Op Lib Jvm.Stand Jvm.Free Jvm.LawKit
section OwnKit
variable {p : Program} {l : Launch} {e : Env} {R : Room} {s : State} {m : MethodId} {args : Array Value} {below : List Frame} {meth : Method} {c : Code} {T T' : State} {locs locs' : List Loc} {k n k' n' : Nat} {Z : State} {a0 : Array Value} {h h' h0 : Heap}
theorem retI (X : Stand p l e R s m args below meth c T locs k n) (hx : p.tables.exec = Jvm.exec) {pc : Nat} {Ls : Array Slot} {z : Int32} {rest : List Value} (hret : meth.sig.returnType = some .int) (hd : decode c.code pc = .ok (.ireturn, 1)) {fs : List Frame}
    (hl : ∀ (f : JFrame) (acts : List Action), f.method = m → f.locked = none → f.entered = [] → (doReturn e (T.setTop f) acts (some (.int z))).1 = T.setFrames fs) : Steps p.tables e below (T.setTop (mkF m pc Ls (.int z :: rest))) (T.setFrames fs) := by
  have hm' : T.vm.method? m = some meth := X.method'
  have hn : narrow .int (.int z) = .int z := rfl
  show Steps p.tables e below (T.setTop { method := m, pc := pc, locals := Ls, stack := _ :: rest, locked := none }) _
  jvm_step X.here [X.here.top, hx, hd, hm', hret, hn]
  first | (intro acts; rw [hl _ acts rfl rfl rfl]) | rw [hl _ _ rfl rfl rfl]
  exact Steps.refl _
/-- how a body may end: the instruction, the method's return type, what lies on the stack, what is handed back -/
def OwnRet (i : Instr) (ret : Option FieldType) (w v : Option Value) : Prop :=
  (i = .ireturn ∧ ∃ z : Int32, ret = some .int ∧ w = some (.int z) ∧ v = some (.int z)) ∨
  (i = .ireturn ∧ ∃ (t : FieldType) (z : Int32), ret = some t ∧ (t = .boolean ∨ t = .byte ∨ t = .char ∨ t = .short) ∧ w = some (.int z) ∧ v = some (.int (nar t z))) ∨
  (i = .lreturn ∧ ret = some .long ∧ ∃ z : Int64, w = some (.long z) ∧ v = some (.long z)) ∨
  (i = .areturn ∧ ∃ (t : FieldType) (u : Value), ret = some t ∧ t.isReference = true ∧ u.isRef = true ∧ narrow t u = u ∧ w = some u ∧ v = some u) ∨
  (i = .return_ ∧ ret = none ∧ w = none ∧ v = none)
/-- from the frame g the body comes to its return and leaves what Q says -/
def OwnFin (_X : Stand p l e R s m args below meth c T locs k n) (ret : Option FieldType) (Q : Option Value → Heap → List Loc → Prop) (K N : Nat) (g : JFrame) : Prop :=
  ∃ (i : Instr) (w v : Option Value) (T' : State) (locs' : List Loc) (k' n' pcr : Nat) (Ls : Array Slot), OwnRet i ret w v ∧ Stand p l e R s m args below meth c T' locs' k' n' ∧ k' ≤ K ∧ n' ≤ N ∧ Q v T'.heap locs' ∧ decode c.code pcr = .ok (i, 1) ∧
    ∀ t, Steps p.tables e below (T'.setTop (mkF m pcr Ls w.toList)) t → Steps p.tables e below (T.setTop g) t
variable {ret : Option FieldType} {Q : Option Value → Heap → List Loc → Prop} {K N : Nat} {g g' : JFrame}
theorem OwnFin.step {X : Stand p l e R s m args below meth c T locs k n} (X' : Stand p l e R s m args below meth c T' locs' k' n') (hs : ∀ t, Steps p.tables e below (T'.setTop g') t → Steps p.tables e below (T.setTop g) t) (hF : OwnFin X' ret Q K N g') : OwnFin X ret Q K N g := by
  obtain ⟨i, w, v, T2, locs2, k2, n2, pcr, Ls, h1, h2, h3, h4, h5, h6, h7⟩ := hF
  exact ⟨i, w, v, T2, locs2, k2, n2, pcr, Ls, h1, h2, h3, h4, h5, h6, fun t k => hs t (h7 t k)⟩
theorem OwnFin.retInt (X : Stand p l e R s m args below meth c T locs k n) {pc : Nat} {Ls : Array Slot} {z : Int32} (hd : decode c.code pc = .ok (.ireturn, 1)) (hk : k ≤ K) (hn : n ≤ N) (hQ : Q (some (.int z)) T.heap locs) : OwnFin X (some .int) Q K N (mkF m pc Ls [.int z]) :=
  ⟨.ireturn, some (.int z), _, T, locs, k, n, pc, Ls, Or.inl ⟨rfl, z, rfl, rfl, rfl⟩, X, hk, hn, hQ, hd, fun _ k => k⟩
theorem OwnFin.retNar (X : Stand p l e R s m args below meth c T locs k n) {t : FieldType} (ht : t = .boolean ∨ t = .byte ∨ t = .char ∨ t = .short) {pc : Nat} {Ls : Array Slot} {z : Int32} (hd : decode c.code pc = .ok (.ireturn, 1)) (hk : k ≤ K) (hn : n ≤ N) (hQ : Q (some (.int (nar t z))) T.heap locs) : OwnFin X (some t) Q K N (mkF m pc Ls [.int z]) :=
  ⟨.ireturn, some (.int z), _, T, locs, k, n, pc, Ls, Or.inr (Or.inl ⟨rfl, t, z, rfl, ht, rfl, rfl⟩), X, hk, hn, hQ, hd, fun _ k => k⟩
theorem OwnFin.retLong (X : Stand p l e R s m args below meth c T locs k n) {pc : Nat} {Ls : Array Slot} {z : Int64} (hd : decode c.code pc = .ok (.lreturn, 1)) (hk : k ≤ K) (hn : n ≤ N) (hQ : Q (some (.long z)) T.heap locs) : OwnFin X (some .long) Q K N (mkF m pc Ls [.long z]) :=
  ⟨.lreturn, some (.long z), _, T, locs, k, n, pc, Ls, Or.inr (Or.inr (Or.inl ⟨rfl, rfl, z, rfl, rfl⟩)), X, hk, hn, hQ, hd, fun _ k => k⟩
theorem OwnFin.retRef (X : Stand p l e R s m args below meth c T locs k n) {t : FieldType} {u : Value} (ht : t.isReference = true) (hu : u.isRef = true) (hnw : narrow t u = u) {pc : Nat} {Ls : Array Slot} (hd : decode c.code pc = .ok (.areturn, 1)) (hk : k ≤ K) (hn : n ≤ N) (hQ : Q (some u) T.heap locs) : OwnFin X (some t) Q K N (mkF m pc Ls [u]) :=
  ⟨.areturn, some u, _, T, locs, k, n, pc, Ls, Or.inr (Or.inr (Or.inr (Or.inl ⟨rfl, t, u, rfl, ht, hu, hnw, rfl, rfl⟩))), X, hk, hn, hQ, hd, fun _ k => k⟩
theorem OwnFin.retVoid (X : Stand p l e R s m args below meth c T locs k n) {pc : Nat} {Ls : Array Slot} (hd : decode c.code pc = .ok (.return_, 1)) (hk : k ≤ K) (hn : n ≤ N) (hQ : Q none T.heap locs) : OwnFin X none Q K N (mkF m pc Ls []) :=
  ⟨.return_, none, _, T, locs, k, n, pc, Ls, Or.inr (Or.inr (Or.inr (Or.inr ⟨rfl, rfl, rfl, rfl⟩))), X, hk, hn, hQ, hd, fun _ k => k⟩
theorem own_met {y : MethodName} {bytes : ByteArray} {maxL : Nat} {rm : Room} {ws : List Jvm.Cond} {as' : Array Value} {Ls : Array Slot} (hpf : plainFor y = true) (hent : ∀ m, entryFrame m as' maxL = mkF m 0 Ls [])
    (H : ∀ p e s m below meth c s₁ (X : Stand p l e rm s m as' below meth c s₁ [] 0 0), p.tables.exec = Jvm.exec → c.code = bytes → c.maxLocals = maxL → s.vm.findClass y.cls = some m.cls → meth.name = y.name → Z.Warmed39 s.vm → s₁.heap = h0 → OwnFin X ret Q rm.cells rm.slots (mkF m 0 Ls [])) :
    MetFree l y (head1 (Jvm.Cond.code y bytes maxL ret :: ws) rm) (fun a U => a = as' ∧ Z.Warmed39 U.vm ∧ U.heap = h0) (fun _ _ _ _ _ => True) (fun _ U o U' => ∃ v L, o = .returned v ∧ Q v U'.heap L ∧ FrameEnd U o U' L rm.cells rm.slots) := by
  refine MetFree.of_bodySF hpf hisR ?_
  intro p e s m args below meth c s₁ Bd hml0 hP hK
  obtain ⟨rfl, hZ, hh⟩ := hP
  have hx := Bd.exec
  have hby := Bd.bytes
  have hown : s.vm.findClass y.cls = some m.cls := findClass_of_methodNamed Bd.named
  have hnm := (name_of_methodNamed Bd.named Bd.method).1
  have X0 : Stand p l e rm s m args below meth c s₁ [] 0 0 := Stand.of_body Bd
  have e0 : s₁.heap = h0 := by rw [← hh, Bd.state]; rfl
  obtain ⟨i, w, v, T2, locs2, k2, n2, pcr, Ls2, h1, X2, h3, h4, h5, h6, h7⟩ := H p e s m below meth c s₁ X0 hx hby hml0 hown hnm hZ e0
  have hret := Bd.returns
  have hv : meth.sig.returnType = none → v = none := by
    intro q
    rw [hret] at q
    rcases h1 with ⟨-, z, hr, -⟩ | ⟨-, t, z, hr, -⟩ | ⟨-, hr, -⟩ | ⟨-, t, u, hr, -⟩ | ⟨-, -, -, hr⟩
    · rw [hr] at q; cases q
    · rw [hr] at q; cases q
    · rw [hr] at q; cases q
    · rw [hr] at q; cases q
    · exact hr
  obtain ⟨fs, hr, hrun, hended, hW, hsame⟩ := X2.leave (v := v) hv
  refine ⟨_, _, ?_, hrun, hended, _, _, rfl, h5, ⟨_, rfl⟩, hW, hsame.mono h3 h4⟩
  rw [hent]
  apply h7
  rcases h1 with ⟨rfl, z, rfl, rfl, rfl⟩ | ⟨rfl, t, z, rfl, ht, rfl, rfl⟩ | ⟨rfl, rfl, z, rfl, rfl⟩ | ⟨rfl, t, u, rfl, ht, hu, hnw, rfl, rfl⟩ | ⟨rfl, rfl, rfl, rfl⟩
  · exact retI X2 hx hret h6 hr
  · exact retN X2 hx hret ht h6 hr
  · exact retOut X2 hx hret rfl (Or.inr (Or.inl ⟨rfl, rfl, z, rfl⟩)) h6 hr
  · exact retOut X2 hx hret hnw (Or.inr (Or.inr (Or.inr (Or.inr ⟨rfl, ht, hu⟩)))) h6 hr
  · exact X2.returnOut hx hret h6 hr
theorem OwnFin.wide {X : Stand p l e R s m args below meth c T locs k n} {K' N' : Nat} (F : OwnFin X ret Q K N g) (h1 : K ≤ K') (h2 : N ≤ N') : OwnFin X ret Q K' N' g := by
  obtain ⟨i, w, v, T2, locs2, k2, n2, pcr, Ls, q1, q2, q3, q4, q5, q6, q7⟩ := F
  exact ⟨i, w, v, T2, locs2, k2, n2, pcr, Ls, q1, q2, Nat.le_trans q3 h1, Nat.le_trans q4 h2, q5, q6, q7⟩
/-- a callee that leaves the heap alone: what it hands back -/
def PQ (w : Option Value) (h0 : Heap) (n0 : Nat) : Option Value → Heap → List Loc → Prop := fun v h L => v = w ∧ h = h0 ∧ Fr n0 L
def LQ (n0 : Nat) : Option Value → Heap → List Loc → Prop := fun v _ L => v = some (.int 1) ∧ Fr n0 L
theorem own_callS (X : Stand p l e R s m args below meth c T locs k n) (hx : p.tables.exec = Jvm.exec) (hZ : Z.Warmed39 s.vm) {own : String} {index : Nat} {y : MethodName} {bytes : ByteArray} {maxL W : Nat} {rt : Option FieldType} {rm : Room} {argsL rest : List Value} {ps : List FieldType} {r : Option FieldType} {Qc : Option Value → Heap → List Loc → Prop}
    (hown : s.vm.findClass own = some m.cls) (w1 : (Jvm.Cond.methodLink own index y).before a0 Z = true) (w2 : (Jvm.Cond.static y).before a0 Z = true) (w3 : (Jvm.Cond.initialized y.cls).before a0 Z = true) (w4 : (Jvm.Cond.code y bytes maxL rt).before a0 Z = true) (hy : y.cls ≠ "java/lang/invoke/MethodHandle" ∧ y.cls ≠ "java/lang/invoke/VarHandle")
    (hM : MetFree l y (head1 [Jvm.Cond.code y bytes maxL rt] rm) (fun a U => a = argsL.toArray ∧ Z.Warmed39 U.vm ∧ U.heap = h) (fun _ _ _ _ _ => True) (fun _ U o U' => ∃ v L, o = .returned v ∧ Qc v U'.heap L ∧ FrameEnd U o U' L rm.cells rm.slots))
    (hf : rm.frames + 1 ≤ R.frames) (hl : W + (maxL + 11) + rm.locals ≤ R.locals) (hc : k + rm.cells ≤ R.cells) (hs : n + rm.slots ≤ R.slots) (eT : T.heap = h)
    (hg : g.method = m) (hsize : g.locals.size = c.maxLocals) (hd : parseMethodDescriptor y.desc = some ⟨ps, r⟩) (hlen : argsL.length = ps.length) (hstack : g.stack = argsL.reverse ++ rest) (hW : 2 * g.monitorRoom + (rest.map fun v => v.category).sum ≤ W) (hdg : decode c.code g.pc = .ok (.invokestatic index, 3)) :
    ∃ v T' L, Stand p l e R s m args below meth c T' (locs ++ L) (k + rm.cells) (n + rm.slots) ∧ Qc v T'.heap L ∧ ∀ t, Steps p.tables e below (T'.setTop { g with pc := g.pc + 3, stack := v.toList ++ rest }) t → Steps p.tables e below (T.setTop g) t := by
  obtain ⟨v, vm1, ⟨T', L', k', n'⟩, -, X', ⟨Lc, hQ, l1, y1, z1⟩, st⟩ := Jvm.LawKit.callS X hx (y := y) hown (mvT hZ w1) (mvT hZ w2) (mvT hZ w3) (mvT hZ w4) hy (backOf (W := W) hM hZ w4 w3 hf hl) hg hsize (argsL := argsL) (rest := rest) (lenOf hd hlen) hstack hW hdg (fun _ _ => ⟨rfl, eT, hc, hs⟩)
  dsimp only [Pt.U, Pt.locs, Pt.cells, Pt.slots] at X' l1 y1 z1 st hQ
  subst l1 y1 z1
  exact ⟨v, T', Lc, X', hQ, st⟩
theorem own_callI (X : Stand p l e R s m args below meth c T locs k n) (hx : p.tables.exec = Jvm.exec) (hZ : Z.Warmed39 s.vm) {own : String} {index : Nat} {y : MethodName} {bytes : ByteArray} {maxL W : Nat} {rm : Room} {a : Addr} {argsL rest : List Value} {ps : List FieldType} {r : Option FieldType} {Qc : Option Value → Heap → List Loc → Prop}
    (hy1 : y.name = "<init>") (hown : s.vm.findClass own = some m.cls) (w1 : (Jvm.Cond.methodLink own index y).before a0 Z = true) (w2 : (Jvm.Cond.instanceMethod y).before a0 Z = true) (w3 : (Jvm.Cond.initialized y.cls).before a0 Z = true) (w4 : (Jvm.Cond.code y bytes maxL none).before a0 Z = true) (hy : y.cls ≠ "java/lang/invoke/MethodHandle" ∧ y.cls ≠ "java/lang/invoke/VarHandle")
    (hM : MetFree l y (head1 [Jvm.Cond.code y bytes maxL none] rm) (fun a' U => a' = (Value.ref a :: argsL).toArray ∧ Z.Warmed39 U.vm ∧ U.heap = h) (fun _ _ _ _ _ => True) (fun _ U o U' => ∃ v L, o = .returned v ∧ Qc v U'.heap L ∧ FrameEnd U o U' L rm.cells rm.slots))
    (hf : rm.frames + 1 ≤ R.frames) (hl : W + (maxL + 11) + rm.locals ≤ R.locals) (hc : k + rm.cells ≤ R.cells) (hs : n + rm.slots ≤ R.slots) (eT : T.heap = h)
    (hg : g.method = m) (hsize : g.locals.size = c.maxLocals) (hd : parseMethodDescriptor y.desc = some ⟨ps, r⟩) (hlen : argsL.length = ps.length) (hstack : g.stack = argsL.reverse ++ .ref a :: rest) (hW : 2 * g.monitorRoom + (rest.map fun v => v.category).sum ≤ W) (hdg : decode c.code g.pc = .ok (.invokespecial index, 3)) :
    ∃ v T' L, Stand p l e R s m args below meth c T' (locs ++ L) (k + rm.cells) (n + rm.slots) ∧ Qc v T'.heap L ∧ ∀ t, Steps p.tables e below (T'.setTop { g with pc := g.pc + 3, stack := v.toList ++ rest }) t → Steps p.tables e below (T.setTop g) t := by
  obtain ⟨v, vm1, ⟨T', L', k', n'⟩, -, X', ⟨Lc, hQ, l1, y1, z1⟩, st⟩ := X.specialBack hx (y := y) hy1 hown (mvT hZ w1) (mvT hZ w2) (mvT hZ w4) hy (backOf (W := W) hM hZ w4 w3 hf hl) hg hsize (Steps.refl _) (a := a) (argsL := argsL) (rest := rest) (lenOf hd hlen) hstack hW hdg (fun _ _ => ⟨rfl, eT, hc, hs⟩)
  dsimp only [Pt.U, Pt.locs, Pt.cells, Pt.slots] at X' l1 y1 z1 st hQ
  subst l1 y1 z1
  exact ⟨v, T', Lc, X', hQ, fun t k => st.trans k⟩
theorem own_callV (X : Stand p l e R s m args below meth c T locs k n) (hx : p.tables.exec = Jvm.exec) (hZ : Z.Warmed39 s.vm) {own C : String} {index : Nat} {y : MethodName} {bytes : ByteArray} {maxL W : Nat} {rt : Option FieldType} {rm : Room} {a : Addr} {argsL rest : List Value} {ps : List FieldType} {r : Option FieldType} {Qc : Option Value → Heap → List Loc → Prop}
    (hown : s.vm.findClass own = some m.cls) (w1 : (Jvm.Cond.methodLink own index y).before a0 Z = true) (w2 : (Jvm.Cond.declares y).before a0 Z = true) (w5 : (Jvm.Cond.selects C y y).before a0 Z = true) (w6 : (Jvm.Cond.instanceMethod y).before a0 Z = true) (w3 : (Jvm.Cond.initialized y.cls).before a0 Z = true) (w4 : (Jvm.Cond.code y bytes maxL rt).before a0 Z = true) (hy : y.cls ≠ "java/lang/invoke/MethodHandle" ∧ y.cls ≠ "java/lang/invoke/VarHandle")
    (E : Exa Z h a C)
    (hM : MetFree l y (head1 [Jvm.Cond.code y bytes maxL rt] rm) (fun a' U => a' = (Value.ref a :: argsL).toArray ∧ Z.Warmed39 U.vm ∧ U.heap = h) (fun _ _ _ _ _ => True) (fun _ U o U' => ∃ v L, o = .returned v ∧ Qc v U'.heap L ∧ FrameEnd U o U' L rm.cells rm.slots))
    (hf : rm.frames + 1 ≤ R.frames) (hl : W + (maxL + 11) + rm.locals ≤ R.locals) (hc : k + rm.cells ≤ R.cells) (hs : n + rm.slots ≤ R.slots) (eT : T.heap = h)
    (hg : g.method = m) (hsize : g.locals.size = c.maxLocals) (hd : parseMethodDescriptor y.desc = some ⟨ps, r⟩) (hlen : argsL.length = ps.length) (hstack : g.stack = argsL.reverse ++ .ref a :: rest) (hW : 2 * g.monitorRoom + (rest.map fun v => v.category).sum ≤ W) (hdg : decode c.code g.pc = .ok (.invokevirtual index, 3)) :
    ∃ v T' L, Stand p l e R s m args below meth c T' (locs ++ L) (k + rm.cells) (n + rm.slots) ∧ Qc v T'.heap L ∧ ∀ t, Steps p.tables e below (T'.setTop { g with pc := g.pc + 3, stack := v.toList ++ rest }) t → Steps p.tables e below (T.setTop g) t := by
  obtain ⟨cq, kq, q1, q2, q3⟩ := isOf hZ eT E
  obtain ⟨v, vm1, ⟨T', L', k', n'⟩, -, X', ⟨Lc, hQ, l1, y1, z1⟩, st⟩ := X.virtualBack hx (y := y) (z := y) hown (mvT hZ w1) (mvT hZ w2) (notFace_of_selects (args := #[]) (mvT hZ w5)) (mvT hZ w5) (mvT hZ w6) hy (backOf (W := W) hM hZ w4 w3 hf hl) q1 q3 hg hsize (Steps.refl _) (argsL := argsL) (rest := rest) (lenOf hd hlen) hstack hW hdg (fun _ _ => ⟨rfl, eT, hc, hs⟩)
  dsimp only [Pt.U, Pt.locs, Pt.cells, Pt.slots] at X' l1 y1 z1 st hQ
  subst l1 y1 z1
  exact ⟨v, T', Lc, X', hQ, fun t k => st.trans k⟩
theorem lrem_eq_mod (x y : Int64) : x - (x / y) * y = x % y := by
  apply Int64.toInt_inj.mp
  have h1 := Int64.le_toInt (x % y)
  have h2 := Int64.toInt_lt (x % y)
  rw [Int64.toInt_sub, Int64.toInt_mul, Int64.toInt_div, Int.bmod_mul_bmod, Int.sub_bmod_bmod, Int.mul_comm (x.toInt.tdiv y.toInt), ← Int.tmod_def, ← Int64.toInt_mod]
  exact Int.bmod_eq_of_le_mul_two (by omega) (by omega)
theorem own_lrem (X : Stand p l e R s m args below meth c T locs k n) (hx : p.tables.exec = Jvm.exec) (hg : g.method = m) {x y : Int64} {rest : List Value} (hd : decode c.code g.pc = .ok (.lrem, 1)) (hs : g.stack = .long y :: .long x :: rest) (hy : y ≠ 0) {target : State}
    (hr : Steps p.tables e below (T.setTop { g with pc := g.pc + 1, stack := .long (x % y) :: rest }) target) : Steps p.tables e below (T.setTop g) target := by
  exact XT.lrem X.here hx hg hd hs hy (by rw [lrem_eq_mod]; exact hr)
theorem cl_lt (x y : Int64) : XT.cmpL x y < 0 ↔ x < y := by
  unfold XT.cmpL
  split
  · rename_i q; simp only [Int64.lt_iff_toInt_lt] at *; constructor <;> intro w <;> first | (exact absurd w (by decide)) | omega
  · split
    · rename_i q r; subst r; constructor <;> intro w
      · exact absurd w (by decide)
      · exact absurd w q
    · rename_i q r; constructor <;> intro w
      · simp only [Int64.lt_iff_toInt_lt, ← Int64.toInt_inj] at *; omega
      · decide
theorem cl_gt (x y : Int64) : 0 < XT.cmpL x y ↔ y < x := by
  unfold XT.cmpL
  split
  · rename_i q; exact ⟨fun _ => q, fun _ => by decide⟩
  · rename_i q
    constructor
    · intro w; split at w <;> exact absurd w (by decide)
    · intro w; exact absurd w q
theorem cl_eq (x y : Int64) : XT.cmpL x y = 0 ↔ x = y := by
  unfold XT.cmpL
  split
  · rename_i q; constructor
    · intro w; exact absurd w (by decide)
    · intro w; subst w; simp only [Int64.lt_iff_toInt_lt] at q; omega
  · split
    · rename_i r; exact ⟨fun _ => r, fun _ => rfl⟩
    · rename_i r; constructor
      · intro w; exact absurd w (by decide)
      · intro w; exact absurd w r
end OwnKit
end Jvm.RoadKit
namespace Jvm.RoadKit
open Sem ClassFile Op Lib Jvm.Stand Jvm.Free Jvm.LawKit
section OwnHeap
variable {p : Program} {l : Launch} {e : Env} {R : Room} {s : State} {m : MethodId} {args : Array Value} {below : List Frame} {meth : Method} {c : Code} {T T' : State} {locs locs' : List Loc} {k n k' n' : Nat} {Z : State} {a0 : Array Value} {h h' h0 : Heap} {g : JFrame} {a b : Addr} {ws ws' : List Addr} {n0 : Nat}
theorem keep_ext (E : Ext h h') : Keep h h' [] := (Keep.refl h []).ext E
theorem nin1 {x y : Addr} (q : x ≠ y) : x ∉ [y] := ninS q nin0
/-- an array: its length and what each place holds -/
def Ary (Z : State) (h : Heap) (a : Addr) (ty : FieldType) (n : Nat) (f : Nat → Value) : Prop := ∃ c : Cell, Arr Z h a c ty ∧ c.slots.size = n ∧ n < 2 ^ 31 ∧ ∀ i, i < n → c.slots[i]? = some (f i)
def updN {α : Type} (f : Nat → α) (j : Nat) (v : α) : Nat → α := fun i => if i = j then v else f i
theorem updN_same {α : Type} (f : Nat → α) (j : Nat) (v : α) : updN f j v j = v := if_pos rfl
theorem updN_ne {α : Type} (f : Nat → α) {i j : Nat} (v : α) (q : i ≠ j) : updN f j v i = f i := if_neg q
def InB (j : Int32) (n : Nat) : Prop := ¬ j < 0 ∧ j.toNatClampNeg < n
instance (j : Int32) (n : Nat) : Decidable (InB j n) := inferInstanceAs (Decidable (¬ j < 0 ∧ j.toNatClampNeg < n))
variable {ty : FieldType} {len : Nat} {f : Nat → Value}
theorem Ary.lt (F : Ary Z h a ty len f) : a < h.size := by obtain ⟨c, A, -⟩ := F; exact A.lt
theorem Ary.keep (F : Ary Z h a ty len f) (K : Keep h h' ws) (q : a ∉ ws) : Ary Z h' a ty len f := by
  obtain ⟨c, A, r⟩ := F; exact ⟨c, ⟨K.2.1 a c A.1 q, A.2⟩, r⟩
theorem Ary.small (F : Ary Z h a ty len f) : len < 2 ^ 31 := by obtain ⟨c, A, r1, r2, -⟩ := F; exact r2
theorem Ary.congr {f' : Nat → Value} (F : Ary Z h a ty len f) (q : ∀ i, i < len → f i = f' i) : Ary Z h a ty len f' := by
  obtain ⟨c, A, r1, r2, r3⟩ := F; exact ⟨c, A, r1, r2, fun i hi => by rw [← q i hi]; exact r3 i hi⟩
theorem Ary.wr {v : Value} {j : Nat} (F : Ary Z h a ty len f) (W : Wr h h' a j v) (hj : j < len) : Ary Z h' a ty len (updN f j v) := by
  obtain ⟨c, A, r1, r2, r3⟩ := F
  refine ⟨_, A.same W, by rw [sz_set]; exact r1, r2, fun i hi => ?_⟩
  by_cases q : i = j
  · subst q; rw [updN_same]; simp [Cell.setSlot, r1, hi]
  · rw [updN_ne _ _ q]; simp only [Cell.setSlot]; rw [Array.getElem?_setIfInBounds_ne (Ne.symm q)]; exact r3 i hi
theorem not_in {j : Int32} {n : Nat} (q : InB j n) {c : Cell} (r : c.slots.size = n) : ¬ (j < 0 ∨ c.slots.size ≤ j.toNatClampNeg) := by
  rw [r]; obtain ⟨q1, q2⟩ := q; intro z; rcases z with z | z
  · exact q1 z
  · omega
theorem own_len (X : Stand p l e R s m args below meth c T locs k n) (hx : p.tables.exec = Jvm.exec) (hZ : Z.Warmed39 s.vm) (eT : T.heap = h) (A : Ary Z h a ty len f) {rest : List Value} (hg : g.method = m) (hs : g.stack = .ref a :: rest) (hd : decode c.code g.pc = .ok (.arraylength, 1)) (t : State)
    (hr : Steps p.tables e below (T.setTop { g with pc := g.pc + 1, stack := .int len.toInt32 :: rest }) t) : Steps p.tables e below (T.setTop g) t := by
  obtain ⟨cl, A1, r1, r2, r3⟩ := A
  refine X.arraylength hx (by rw [eT]; exact A1.1) (State.isArrayOf_alike hZ.alike A1.2.1) hg hs hd t ?_
  rw [r1]; exact hr
theorem own_ldI (X : Stand p l e R s m args below meth c T locs k n) (hx : p.tables.exec = Jvm.exec) (hZ : Z.Warmed39 s.vm) (eT : T.heap = h) (A : Ary Z h a .int len f) {j : Int32} (hj : InB j len) {v : Value} (hv : f j.toNatClampNeg = v) {rest : List Value} (hg : g.method = m) (hs : g.stack = .int j :: .ref a :: rest) (hd : decode c.code g.pc = .ok (.iaload, 1)) (t : State)
    (hr : Steps p.tables e below (T.setTop { g with pc := g.pc + 1, stack := v :: rest }) t) : Steps p.tables e below (T.setTop g) t := by
  obtain ⟨cl, A1, r1, r2, r3⟩ := A
  exact X.iaload hx (by rw [eT]; exact A1.1) (State.isArrayOf_alike hZ.alike A1.2.1) A1.2.2 (not_in hj r1) (by rw [r3 _ hj.2, hv]) hg hs hd t hr
theorem own_ldJ (X : Stand p l e R s m args below meth c T locs k n) (hx : p.tables.exec = Jvm.exec) (hZ : Z.Warmed39 s.vm) (eT : T.heap = h) (A : Ary Z h a .long len f) {j : Int32} (hj : InB j len) {v : Value} (hv : f j.toNatClampNeg = v) {rest : List Value} (hg : g.method = m) (hs : g.stack = .int j :: .ref a :: rest) (hd : decode c.code g.pc = .ok (.laload, 1)) (t : State)
    (hr : Steps p.tables e below (T.setTop { g with pc := g.pc + 1, stack := v :: rest }) t) : Steps p.tables e below (T.setTop g) t := by
  obtain ⟨cl, A1, r1, r2, r3⟩ := A
  exact X.laload hx (by rw [eT]; exact A1.1) (State.isArrayOf_alike hZ.alike A1.2.1) A1.2.2 (not_in hj r1) (by rw [r3 _ hj.2, hv]) hg hs hd t hr
theorem own_ldC (X : Stand p l e R s m args below meth c T locs k n) (hx : p.tables.exec = Jvm.exec) (hZ : Z.Warmed39 s.vm) (eT : T.heap = h) (A : Ary Z h a .char len f) {j : Int32} (hj : InB j len) {v : Value} (hv : f j.toNatClampNeg = v) {rest : List Value} (hg : g.method = m) (hs : g.stack = .int j :: .ref a :: rest) (hd : decode c.code g.pc = .ok (.caload, 1)) (t : State)
    (hr : Steps p.tables e below (T.setTop { g with pc := g.pc + 1, stack := v :: rest }) t) : Steps p.tables e below (T.setTop g) t := by
  obtain ⟨cl, A1, r1, r2, r3⟩ := A
  exact X.caload hx (by rw [eT]; exact A1.1) (State.isArrayOf_alike hZ.alike A1.2.1) A1.2.2 (not_in hj r1) (by rw [r3 _ hj.2, hv]) hg hs hd t hr
theorem own_ldB (X : Stand p l e R s m args below meth c T locs k n) (hx : p.tables.exec = Jvm.exec) (hZ : Z.Warmed39 s.vm) (eT : T.heap = h) (A : Ary Z h a .byte len f) {j : Int32} (hj : InB j len) {v : Value} (hv : f j.toNatClampNeg = v) {rest : List Value} (hg : g.method = m) (hs : g.stack = .int j :: .ref a :: rest) (hd : decode c.code g.pc = .ok (.baload, 1)) (t : State)
    (hr : Steps p.tables e below (T.setTop { g with pc := g.pc + 1, stack := v :: rest }) t) : Steps p.tables e below (T.setTop g) t := by
  obtain ⟨cl, A1, r1, r2, r3⟩ := A
  exact X.baloadBytes hx (by rw [eT]; exact A1.1) (State.isArrayOf_alike hZ.alike A1.2.1) A1.2.2 (not_in hj r1) (by rw [r3 _ hj.2, hv]) hg hs hd t hr
theorem own_ldA (X : Stand p l e R s m args below meth c T locs k n) (hx : p.tables.exec = Jvm.exec) (hZ : Z.Warmed39 s.vm) (eT : T.heap = h) (A : Ary Z h a ty len f) (hty : ty.isReference = true) {j : Int32} (hj : InB j len) {v : Value} (hv : f j.toNatClampNeg = v) {rest : List Value} (hg : g.method = m) (hs : g.stack = .int j :: .ref a :: rest) (hd : decode c.code g.pc = .ok (.aaload, 1)) (t : State)
    (hr : Steps p.tables e below (T.setTop { g with pc := g.pc + 1, stack := v :: rest }) t) : Steps p.tables e below (T.setTop g) t := by
  obtain ⟨cl, A1, r1, r2, r3⟩ := A
  exact X.aaload hx (by rw [eT]; exact A1.1) (State.isArrayOf_alike hZ.alike A1.2.1) hty A1.2.2 (not_in hj r1) (by rw [r3 _ hj.2, hv]) hg hs hd t hr
theorem own_stI (X : Stand p l e R s m args below meth c T locs k n) (hx : p.tables.exec = Jvm.exec) (hZ : Z.Warmed39 s.vm) (eT : T.heap = h) (N : Fr n0 locs) {G : Nat → Int32} (A : Ary Z h a .int len (fun i => .int (G i))) (ga : n0 ≤ a) {j x : Int32} (hj : InB j len) {rest : List Value} (hg : g.method = m) (hs : g.stack = .int x :: .int j :: .ref a :: rest) (hd : decode c.code g.pc = .ok (.iastore, 1)) :
    ∃ (T' : State) (h' : Heap) (locs' : List Loc), Stand p l e R s m args below meth c T' locs' k n ∧ T'.heap = h' ∧ Fr n0 locs' ∧ Keep h h' [a] ∧ Ary Z h' a .int len (fun i => .int (updN G j.toNatClampNeg x i)) ∧ ∀ t, Steps p.tables e below (T'.setTop { g with pc := g.pc + 1, stack := rest }) t → Steps p.tables e below (T.setTop g) t := by
  obtain ⟨cl, A1, r⟩ := A
  obtain ⟨T', h', X', e', W, st⟩ := stI X hx hZ eT A1 (not_in hj r.1) hg hs hd
  exact ⟨T', h', _, X', e', Fr.snoc X' N ga, Keep.of_wr W, (Ary.wr ⟨cl, A1, r⟩ W hj.2).congr (fun i _ => by unfold updN; split <;> rfl), st⟩
theorem own_stJ (X : Stand p l e R s m args below meth c T locs k n) (hx : p.tables.exec = Jvm.exec) (hZ : Z.Warmed39 s.vm) (eT : T.heap = h) (N : Fr n0 locs) {G : Nat → Int64} (A : Ary Z h a .long len (fun i => .long (G i))) (ga : n0 ≤ a) {j : Int32} {x : Int64} (hj : InB j len) {rest : List Value} (hg : g.method = m) (hs : g.stack = .long x :: .int j :: .ref a :: rest) (hd : decode c.code g.pc = .ok (.lastore, 1)) :
    ∃ (T' : State) (h' : Heap) (locs' : List Loc), Stand p l e R s m args below meth c T' locs' k n ∧ T'.heap = h' ∧ Fr n0 locs' ∧ Keep h h' [a] ∧ Ary Z h' a .long len (fun i => .long (updN G j.toNatClampNeg x i)) ∧ ∀ t, Steps p.tables e below (T'.setTop { g with pc := g.pc + 1, stack := rest }) t → Steps p.tables e below (T.setTop g) t := by
  obtain ⟨cl, A1, r⟩ := A
  obtain ⟨T', h', X', e', W, st⟩ := stJ X hx hZ eT A1 (not_in hj r.1) hg hs hd
  exact ⟨T', h', _, X', e', Fr.snoc X' N ga, Keep.of_wr W, (Ary.wr ⟨cl, A1, r⟩ W hj.2).congr (fun i _ => by unfold updN; split <;> rfl), st⟩
theorem own_stC (X : Stand p l e R s m args below meth c T locs k n) (hx : p.tables.exec = Jvm.exec) (hZ : Z.Warmed39 s.vm) (eT : T.heap = h) (N : Fr n0 locs) {G : Nat → Int32} (A : Ary Z h a .char len (fun i => .int (G i))) (ga : n0 ≤ a) {j x : Int32} (hj : InB j len) {rest : List Value} (hg : g.method = m) (hs : g.stack = .int x :: .int j :: .ref a :: rest) (hd : decode c.code g.pc = .ok (.castore, 1)) :
    ∃ (T' : State) (h' : Heap) (locs' : List Loc), Stand p l e R s m args below meth c T' locs' k n ∧ T'.heap = h' ∧ Fr n0 locs' ∧ Keep h h' [a] ∧ Ary Z h' a .char len (fun i => .int (updN G j.toNatClampNeg (nar .char x) i)) ∧ ∀ t, Steps p.tables e below (T'.setTop { g with pc := g.pc + 1, stack := rest }) t → Steps p.tables e below (T.setTop g) t := by
  obtain ⟨cl, A1, r⟩ := A
  obtain ⟨T', h', X', e', W, st⟩ := stC X hx hZ eT A1 (not_in hj r.1) hg hs hd
  exact ⟨T', h', _, X', e', Fr.snoc X' N ga, Keep.of_wr W, (Ary.wr ⟨cl, A1, r⟩ W hj.2).congr (fun i _ => by unfold updN; split <;> rfl), st⟩
theorem own_stB (X : Stand p l e R s m args below meth c T locs k n) (hx : p.tables.exec = Jvm.exec) (hZ : Z.Warmed39 s.vm) (eT : T.heap = h) (N : Fr n0 locs) {G : Nat → Int32} (A : Ary Z h a .byte len (fun i => .int (G i))) (ga : n0 ≤ a) {j x : Int32} (hj : InB j len) {rest : List Value} (hg : g.method = m) (hs : g.stack = .int x :: .int j :: .ref a :: rest) (hd : decode c.code g.pc = .ok (.bastore, 1)) :
    ∃ (T' : State) (h' : Heap) (locs' : List Loc), Stand p l e R s m args below meth c T' locs' k n ∧ T'.heap = h' ∧ Fr n0 locs' ∧ Keep h h' [a] ∧ Ary Z h' a .byte len (fun i => .int (updN G j.toNatClampNeg (nar .byte x) i)) ∧ ∀ t, Steps p.tables e below (T'.setTop { g with pc := g.pc + 1, stack := rest }) t → Steps p.tables e below (T.setTop g) t := by
  obtain ⟨cl, A1, r⟩ := A
  obtain ⟨T', h', X', e', W, st⟩ := stB X hx hZ eT A1 (not_in hj r.1) hg hs hd
  exact ⟨T', h', _, X', e', Fr.snoc X' N ga, Keep.of_wr W, (Ary.wr ⟨cl, A1, r⟩ W hj.2).congr (fun i _ => by unfold updN; split <;> rfl), st⟩
/-- newarray of a length that is not negative and at most cap -/
theorem own_new (X : Stand p l e R s m args below meth c T locs k n) (hx : p.tables.exec = Jvm.exec) (hZ : Z.Warmed39 s.vm) {aty : ArrayType} (w : (Jvm.Cond.arrayClass (newarray.typeOf aty)).before a0 Z = true) (eT : T.heap = h) (hg : g.method = m) (hd : decode c.code g.pc = .ok (.newarray aty, 2)) {z : Int32} {rest : List Value} (hs : g.stack = .int z :: rest)
    (hn : ¬ z < 0) {cap : Nat} (hcap : z.toNatClampNeg ≤ cap) (hb : cap * 8 ≤ 536870912) (hc : k + 1 ≤ R.cells) (hl : n + cap ≤ R.slots) :
    ∃ (T' : State) (h' : Heap) (a : Addr), Stand p l e R s m args below meth c T' locs (k + 1) (n + cap) ∧ T'.heap = h' ∧ a = h.size ∧ Keep h h' [] ∧ Ary Z h' a (newarray.typeOf aty) z.toNatClampNeg (fun _ => defaultValue (newarray.typeOf aty)) ∧
      ∀ t, Steps p.tables e below (T'.setTop { g with pc := g.pc + 2, stack := .ref a :: rest }) t → Steps p.tables e below (T.setTop g) t := by
  obtain ⟨T', h', cA, X', e', E, A, st⟩ := newP X hx hZ w eT hg hd hs hn hcap hb hc hl
  refine ⟨T', h', _, X', e', rfl, keep_ext E, ⟨_, A, sz_new _ _ _, ?_, fun i hi => ?_⟩, st⟩
  · exact (back32 hn).2
  · simp [newA, hi]
/-- an object's field written: the heap, what is kept, the field -/
theorem own_putF (X : Stand p l e R s m args below meth c T locs k n) (hx : p.tables.exec = Jvm.exec) (hZ : Z.Warmed39 s.vm) {own O nm d C : String} {index kk : Nat} {fty : FieldType} (hown : s.vm.findClass own = some m.cls) (w : (Jvm.Cond.fieldLink own index O nm d).before a0 Z = true)
    (eT : T.heap = h) (N : Fr n0 locs) {u v : Value} (F : Fld Z h a O nm d u) (E : Exa Z h a C) (ga : n0 ≤ a) (lw : (Jvm.Cond.lays C O nm d).before a0 Z = true ∨ ((Jvm.Cond.laysFinal C O nm d).before a0 Z = true ∧ own = O ∧ meth.name = "<init>")) (wi : (Jvm.Cond.instantiable C kk).before a0 Z = true)
    (hty : parseFieldDescriptor d = some fty) (hn : narrow fty v = v) (hf : fits fty v = true) {rest : List Value} (hg : g.method = m) (hs : g.stack = v :: .ref a :: rest) (hd : decode c.code g.pc = .ok (.putfield index, 3)) :
    ∃ (T' : State) (h' : Heap) (locs' : List Loc), Stand p l e R s m args below meth c T' locs' k n ∧ T'.heap = h' ∧ Fr n0 locs' ∧ Wr h h' a (slotOf Z O nm d) v ∧ Fld Z h' a O nm d v ∧ ∀ t, Steps p.tables e below (T'.setTop { g with pc := g.pc + 3, stack := rest }) t → Steps p.tables e below (T.setTop g) t := by
  obtain ⟨T', h', X', e', W, st⟩ := putF X hx hZ hown (host := "") (Or.inl w) Via.refl eT F E lw wi (ty := fty) hty hn hf hg hs hd
  exact ⟨T', h', _, X', e', Fr.snoc X' N ga, W, F.same W, st⟩
theorem Exa.neS {C : String} (F : Exa Z h a C) (q : b = h.size) : a ≠ b := by
  have r := Exa.lt F; intro z; rw [z, q] at r; exact Nat.lt_irrefl _ r
theorem Ary.neS (F : Ary Z h a ty len f) (q : b = h.size) : a ≠ b := by
  have r := Ary.lt F; intro z; rw [z, q] at r; exact Nat.lt_irrefl _ r
end OwnHeap
end Jvm.RoadKit
namespace Jvm.RoadKit
open Sem ClassFile Op Lib Jvm.Stand Jvm.Free Jvm.LawKit
section OwnNum
theorem i32lt (x y : Int32) : x < y ↔ x.toInt < y.toInt := Int32.lt_iff_toInt_lt
theorem i32eq (x y : Int32) : x = y ↔ x.toInt = y.toInt := Int32.toInt_inj.symm
theorem i64lt (x y : Int64) : x < y ↔ x.toInt < y.toInt := Int64.lt_iff_toInt_lt
theorem i64eq (x y : Int64) : x = y ↔ x.toInt = y.toInt := Int64.toInt_inj.symm
theorem nar0 : nar .boolean 0 = 0 := by decide
theorem nar1 : nar .boolean 1 = 1 := by decide
theorem narI (P : Prop) [Decidable P] : nar .boolean (if P then 1 else 0) = if P then 1 else 0 := by split <;> decide
theorem ushr_pos {x y : Int32} (hx : 0 ≤ x.toInt) {k : Nat} (hn : (y &&& 31).toUInt32.toNat = k) (hk : k < 32) : (XT.ushr x y).toInt = x.toInt / 2 ^ k :=
  Jvm.Kit.i32_iushr (Jvm.Kit.i32_nonneg.mpr hx) hn hk
theorem ushr_nat (x y : Int32) {k : Nat} (hn : (y &&& 31).toUInt32.toNat = k) (h1 : 0 < k) (hk : k < 32) : (XT.ushr x y).toInt = (x.toBitVec.toNat / 2 ^ k : Nat) := by
  have e1 : (XT.ushr x y).toBitVec.toNat = x.toBitVec.toNat / 2 ^ k := by
    show (x.toUInt32 >>> (y &&& 31).toUInt32).toNat = _
    rw [UInt32.toNat_shiftRight, hn, Nat.mod_eq_of_lt hk, Nat.shiftRight_eq_div_pow]
    rfl
  have e2 := x.toBitVec.isLt
  have e3 : x.toBitVec.toNat / 2 ^ k < 2 ^ 31 := by
    apply Nat.div_lt_of_lt_mul
    calc x.toBitVec.toNat < 2 ^ 32 := e2
      _ ≤ 2 ^ k * 2 ^ 31 := by rw [← Nat.pow_add]; exact Nat.pow_le_pow_right (by omega) (by omega)
  show (XT.ushr x y).toBitVec.toInt = _
  rw [BitVec.toInt_eq_toNat_of_lt (by rw [e1]; omega), e1]
theorem inb_of_toInt {j : Int32} {n : Nat} (h1 : 0 ≤ j.toInt) (h2 : j.toInt < n) : InB j n := by
  refine ⟨?_, ?_⟩
  · rw [i32lt]; show ¬ j.toInt < 0; omega
  · simp only [Int32.toNatClampNeg]; omega
theorem or32_nat (n : Nat) : n ||| 32 = n + (if n % 64 < 32 then 32 else 0) := by
  have h1 : (n ||| 32) % 2 ^ 6 = (n % 2 ^ 6) ||| (32 % 2 ^ 6) := Nat.or_mod_two_pow
  have h2 : (n ||| 32) / 2 ^ 6 = n / 2 ^ 6 := by
    rw [← Nat.shiftRight_eq_div_pow, Nat.shiftRight_or_distrib, ← Nat.shiftRight_eq_div_pow]
    simp
  have h3 : ∀ r : Fin 64, r.val ||| 32 = if r.val < 32 then r.val + 32 else r.val := by decide
  have h4 := h3 ⟨n % 64, Nat.mod_lt _ (by omega)⟩
  simp only at h4
  have h5 : (n % 2 ^ 6) ||| (32 % 2 ^ 6) = (n % 64) ||| 32 := rfl
  rw [h5, h4] at h1
  split at h1 <;> split <;> omega
theorem or32 (c : Int32) : (c ||| 32).toInt = c.toInt + (if c.toInt % 64 < 32 then 32 else 0) := by
  have e1 : (c ||| 32).toBitVec.toNat = c.toBitVec.toNat ||| 32 := by simp [BitVec.toNat_or]
  have e2 : c.toInt = c.toBitVec.toInt := rfl
  have e3 : (c ||| 32).toInt = (c ||| 32).toBitVec.toInt := rfl
  have e4 := c.toBitVec.isLt
  have e5 := (c ||| 32).toBitVec.isLt
  rw [e2, e3, BitVec.toInt_eq_toNat_cond, BitVec.toInt_eq_toNat_cond, e1, or32_nat]
  rw [e1, or32_nat] at e5
  split at e5 <;> split <;> split <;> split <;> omega
theorem i2c_toInt (x : Int32) : (x.toUInt32.toUInt16.toUInt32.toInt32).toInt = x.toInt % 65536 := by
  have e1 : (x.toUInt32.toUInt16.toUInt32.toInt32).toBitVec.toNat = x.toBitVec.toNat % 65536 := by
    show (x.toUInt32.toUInt16.toUInt32).toNat = _
    simp
    rfl
  have e2 := x.toBitVec.isLt
  have e3 : x.toInt = x.toBitVec.toInt := rfl
  have e4 : (x.toUInt32.toUInt16.toUInt32.toInt32).toInt = (x.toUInt32.toUInt16.toUInt32.toInt32).toBitVec.toInt := rfl
  rw [e3, e4, BitVec.toInt_eq_toNat_cond, BitVec.toInt_eq_toNat_cond, e1]
  split <;> split <;> omega
theorem mulbd {a b : Int} (h1 : 0 ≤ a) (h2 : a ≤ 2147483648) (h3 : 0 ≤ b) (h4 : b ≤ 2147483648) : 0 ≤ a * b ∧ a * b ≤ 4611686018427387904 := by
  refine ⟨Int.mul_nonneg h1 h3, ?_⟩
  have h : a * b ≤ 2147483648 * 2147483648 := Int.mul_le_mul h2 h4 h3 (by omega)
  omega
theorem mul64g {x y : Int64} (h1 : 0 ≤ x.toInt) (h2 : x.toInt ≤ 2147483648) (h3 : 0 ≤ y.toInt) (h4 : y.toInt ≤ 2147483648) : (x * y).toInt = x.toInt * y.toInt := by
  obtain ⟨b1, b2⟩ := mulbd h1 h2 h3 h4
  exact Jvm.Kit.i64_mul (by omega) (by omega)
theorem mul64 {x y : Int32} (h1 : 0 ≤ x.toInt) (h3 : 0 ≤ y.toInt) : (x.toInt64 * y.toInt64).toInt = x.toInt * y.toInt := by
  have e1 := Jvm.Kit.i64_of_i32 x
  have e2 := Jvm.Kit.i64_of_i32 y
  have b1 := Int32.toInt_lt x
  have b2 := Int32.toInt_lt y
  rw [mul64g (by omega) (by omega) (by omega) (by omega), e1, e2]
/-- the quotient q of a by b: b * q ≤ a < b * q + b -/
theorem quot {a b : Int} (hb : 0 < b) : b * (a / b) ≤ a ∧ a < b * (a / b) + b := by
  have h1 := Int.emod_def a b
  have h2 := Int.emod_nonneg a (show b ≠ 0 by omega)
  have h3 := Int.emod_lt_of_pos a hb
  omega
theorem div64 {x y : Int64} (h1 : 0 ≤ x.toInt) (h2 : 0 < y.toInt) : (x / y).toInt = x.toInt / y.toInt := by
  rw [Jvm.Kit.i64_div (by omega), Int.tdiv_eq_ediv_of_nonneg h1]
theorem mask31 (x : Int32) : (x &&& 2147483647).toInt = x.toInt % 2147483648 := by
  have := Jvm.Kit.i32_mask x 2147483647 (k := 31) (by decide) (by decide)
  omega
theorem rem32 {x y : Int32} (h : 0 ≤ x.toInt) (h2 : 0 < y.toInt) : 0 ≤ (x % y).toInt ∧ (x % y).toInt < y.toInt := by
  rw [Jvm.Kit.i32_rem_nonneg h]
  exact ⟨Int.emod_nonneg _ (by omega), Int.emod_lt_of_pos _ h2⟩
end OwnNum
end Jvm.RoadKit
namespace Jvm.Pilot.@@N@@
open Jvm Jvm.ClassFile Sem Op Lib Jvm.Free Jvm.Stand Jvm.LawKit Jvm.RoadKit Bundle Jvm.Pilot.@@N@@.Jvm.D
/-! body 1: com/example/shapeloom/shapeloom/rdf/XmlCharacters.isChar:(I)Z -/
theorem d1_0 : decode prog_8_method_2_code 0 = .ok (.iload_n 0, 1) := by decide +kernel
theorem d1_1 : decode prog_8_method_2_code 1 = .ok (.bipush 9, 2) := by decide +kernel
theorem d1_3 : decode prog_8_method_2_code 3 = .ok (.if_icmp .eq 51, 3) := by decide +kernel
theorem d1_6 : decode prog_8_method_2_code 6 = .ok (.iload_n 0, 1) := by decide +kernel
theorem d1_7 : decode prog_8_method_2_code 7 = .ok (.bipush 10, 2) := by decide +kernel
theorem d1_9 : decode prog_8_method_2_code 9 = .ok (.if_icmp .eq 45, 3) := by decide +kernel
theorem d1_12 : decode prog_8_method_2_code 12 = .ok (.iload_n 0, 1) := by decide +kernel
theorem d1_13 : decode prog_8_method_2_code 13 = .ok (.bipush 13, 2) := by decide +kernel
theorem d1_15 : decode prog_8_method_2_code 15 = .ok (.if_icmp .eq 39, 3) := by decide +kernel
theorem d1_18 : decode prog_8_method_2_code 18 = .ok (.iload_n 0, 1) := by decide +kernel
theorem d1_19 : decode prog_8_method_2_code 19 = .ok (.bipush 32, 2) := by decide +kernel
theorem d1_21 : decode prog_8_method_2_code 21 = .ok (.if_icmp .lt 9, 3) := by decide +kernel
theorem d1_24 : decode prog_8_method_2_code 24 = .ok (.iload_n 0, 1) := by decide +kernel
theorem d1_25 : decode prog_8_method_2_code 25 = .ok (.ldc 7, 2) := by decide +kernel
theorem d1_27 : decode prog_8_method_2_code 27 = .ok (.if_icmp .le 27, 3) := by decide +kernel
theorem d1_30 : decode prog_8_method_2_code 30 = .ok (.iload_n 0, 1) := by decide +kernel
theorem d1_31 : decode prog_8_method_2_code 31 = .ok (.ldc 8, 2) := by decide +kernel
theorem d1_33 : decode prog_8_method_2_code 33 = .ok (.if_icmp .lt 9, 3) := by decide +kernel
theorem d1_36 : decode prog_8_method_2_code 36 = .ok (.iload_n 0, 1) := by decide +kernel
theorem d1_37 : decode prog_8_method_2_code 37 = .ok (.ldc 9, 2) := by decide +kernel
theorem d1_39 : decode prog_8_method_2_code 39 = .ok (.if_icmp .le 15, 3) := by decide +kernel
theorem d1_42 : decode prog_8_method_2_code 42 = .ok (.iload_n 0, 1) := by decide +kernel
theorem d1_43 : decode prog_8_method_2_code 43 = .ok (.ldc 10, 2) := by decide +kernel
theorem d1_45 : decode prog_8_method_2_code 45 = .ok (.if_icmp .lt 13, 3) := by decide +kernel
theorem d1_48 : decode prog_8_method_2_code 48 = .ok (.iload_n 0, 1) := by decide +kernel
theorem d1_49 : decode prog_8_method_2_code 49 = .ok (.ldc 13, 2) := by decide +kernel
theorem d1_51 : decode prog_8_method_2_code 51 = .ok (.if_icmp .gt 7, 3) := by decide +kernel
theorem d1_54 : decode prog_8_method_2_code 54 = .ok (.iconst 1, 1) := by decide +kernel
theorem d1_55 : decode prog_8_method_2_code 55 = .ok (.goto 4, 3) := by decide +kernel
theorem d1_58 : decode prog_8_method_2_code 58 = .ok (.iconst 0, 1) := by decide +kernel
theorem d1_59 : decode prog_8_method_2_code 59 = .ok (.ireturn, 1) := by decide +kernel
theorem pn_1 : plainName "com/example/shapeloom/shapeloom/rdf/XmlCharacters" = true := by first | (simp [plainName, overriddenIn]; done) | decide +kernel
theorem ef_1 (m : MethodId) (p0 : Int32) : entryFrame m #[(.int p0)] 1 = mkF m 0 #[.val (.int p0)] [] := by first | (simp [entryFrame, mkF, argsToLocals, Value.category]; done) | rfl
def f1_42 (p0 : Int32) : Int32 := (if p0 < (65536 : Int32) then (0 : Int32) else (if (1114111 : Int32) < p0 then (0 : Int32) else (1 : Int32)))
set_option maxRecDepth 65536 in
set_option maxHeartbeats 40000000 in
theorem j1_42 {p : Program} {l : Launch} {e : Env} {s : State} {m : MethodId} {args : Array Value} {below : List Frame} {meth : Method} {c : Code} {T0 : State} {locs : List Loc} {Z : State} {a0 : Array Value} {h0 : Heap} {n0 : Nat}
    (X0 : Stand p l e ({ frames := 0, cells := 0, slots := 0, locals := 0 } : Room) s m args below meth c T0 locs 0 0) (hx : p.tables.exec = Jvm.exec) (hZ : Z.Warmed39 s.vm) (hw : ∀ d ∈ tables_1, d.before a0 Z = true) (hby : c.code = prog_8_method_2_code) (hml : c.maxLocals = 1) (hown : s.vm.findClass "com/example/shapeloom/shapeloom/rdf/XmlCharacters" = some m.cls) (e0 : T0.heap = h0) (N0 : Fr n0 locs) (Z0 : n0 ≤ h0.size) (p0 : Int32) :
    OwnFin X0 (some .boolean) (PQ (some (.int (nar .boolean (f1_42 p0)))) h0 n0) 0 0 (mkF m 42 #[.val (.int p0)] []) := by
  show OwnFin X0 (some .boolean) (PQ (some (.int (nar .boolean (if p0 < (65536 : Int32) then (0 : Int32) else (if (1114111 : Int32) < p0 then (0 : Int32) else (1 : Int32)))))) h0 n0) 0 0 _
  refine OwnFin.step (g' := (mkF m 43 #[.val (.int p0)] [(.int p0)])) X0 (fun t k => XS.iloadN X0.here hx rfl (hb hby d1_42) rfl k) ?_
  refine OwnFin.step (g' := (mkF m 45 #[.val (.int p0)] [(.int (65536 : Int32)), (.int p0)])) X0 (fun t k => X0.ldcInt hx hown (mvT hZ (hw _ (List.mem_of_getElem? (i := 18) rfl))) (g := (mkF m 43 #[.val (.int p0)] [(.int p0)])) rfl (hb hby d1_43) _ k) ?_
  by_cases hc8 : p0 < (65536 : Int32)
  · rw [if_pos hc8]
    refine OwnFin.step (g' := (mkF m 58 #[.val (.int p0)] [])) X0 (fun t k => XS.icmpYes X0.here hx rfl (pc0 := 45) (pc' := 58) rfl (hb hby d1_45) rfl (tlt hc8).1 (by decide) (by decide) k) ?_
    refine OwnFin.step (g' := (mkF m 59 #[.val (.int p0)] [(.int (0 : Int32))])) X0 (fun t k => XS.iconst X0.here hx rfl (hb hby d1_58) k) ?_
    exact OwnFin.retNar X0 (by simp) (hb hby d1_59) (Nat.le_refl _) (Nat.le_refl _) ⟨rfl, e0, N0⟩
  · rw [if_neg hc8]
    refine OwnFin.step (g' := (mkF m 48 #[.val (.int p0)] [])) X0 (fun t k => XS.icmpNo X0.here hx rfl (hb hby d1_45) rfl (flt hc8).1 k) ?_
    refine OwnFin.step (g' := (mkF m 49 #[.val (.int p0)] [(.int p0)])) X0 (fun t k => XS.iloadN X0.here hx rfl (hb hby d1_48) rfl k) ?_
    refine OwnFin.step (g' := (mkF m 51 #[.val (.int p0)] [(.int (1114111 : Int32)), (.int p0)])) X0 (fun t k => X0.ldcInt hx hown (mvT hZ (hw _ (List.mem_of_getElem? (i := 25) rfl))) (g := (mkF m 49 #[.val (.int p0)] [(.int p0)])) rfl (hb hby d1_49) _ k) ?_
    by_cases hc9 : (1114111 : Int32) < p0
    · rw [if_pos hc9]
      refine OwnFin.step (g' := (mkF m 58 #[.val (.int p0)] [])) X0 (fun t k => XS.icmpYes X0.here hx rfl (pc0 := 51) (pc' := 58) rfl (hb hby d1_51) rfl (tlt hc9).2.2.1 (by decide) (by decide) k) ?_
      refine OwnFin.step (g' := (mkF m 59 #[.val (.int p0)] [(.int (0 : Int32))])) X0 (fun t k => XS.iconst X0.here hx rfl (hb hby d1_58) k) ?_
      exact OwnFin.retNar X0 (by simp) (hb hby d1_59) (Nat.le_refl _) (Nat.le_refl _) ⟨rfl, e0, N0⟩
    · rw [if_neg hc9]
      refine OwnFin.step (g' := (mkF m 54 #[.val (.int p0)] [])) X0 (fun t k => XS.icmpNo X0.here hx rfl (hb hby d1_51) rfl (flt hc9).2.2.1 k) ?_
      refine OwnFin.step (g' := (mkF m 55 #[.val (.int p0)] [(.int (1 : Int32))])) X0 (fun t k => XS.iconst X0.here hx rfl (hb hby d1_54) k) ?_
      refine OwnFin.step (g' := (mkF m 59 #[.val (.int p0)] [(.int (1 : Int32))])) X0 (fun t k => XS.goto X0.here hx rfl (pc0 := 55) (pc' := 59) rfl (hb hby d1_55) (by decide) (by decide) k) ?_
      exact OwnFin.retNar X0 (by simp) (hb hby d1_59) (Nat.le_refl _) (Nat.le_refl _) ⟨rfl, e0, N0⟩
def f1_30 (p0 : Int32) : Int32 := (if p0 < (57344 : Int32) then (f1_42 p0) else (if (65533 : Int32) < p0 then (f1_42 p0) else (1 : Int32)))
set_option maxRecDepth 65536 in
set_option maxHeartbeats 40000000 in
theorem j1_30 {p : Program} {l : Launch} {e : Env} {s : State} {m : MethodId} {args : Array Value} {below : List Frame} {meth : Method} {c : Code} {T0 : State} {locs : List Loc} {Z : State} {a0 : Array Value} {h0 : Heap} {n0 : Nat}
    (X0 : Stand p l e ({ frames := 0, cells := 0, slots := 0, locals := 0 } : Room) s m args below meth c T0 locs 0 0) (hx : p.tables.exec = Jvm.exec) (hZ : Z.Warmed39 s.vm) (hw : ∀ d ∈ tables_1, d.before a0 Z = true) (hby : c.code = prog_8_method_2_code) (hml : c.maxLocals = 1) (hown : s.vm.findClass "com/example/shapeloom/shapeloom/rdf/XmlCharacters" = some m.cls) (e0 : T0.heap = h0) (N0 : Fr n0 locs) (Z0 : n0 ≤ h0.size) (p0 : Int32) :
    OwnFin X0 (some .boolean) (PQ (some (.int (nar .boolean (f1_30 p0)))) h0 n0) 0 0 (mkF m 30 #[.val (.int p0)] []) := by
  show OwnFin X0 (some .boolean) (PQ (some (.int (nar .boolean (if p0 < (57344 : Int32) then (f1_42 p0) else (if (65533 : Int32) < p0 then (f1_42 p0) else (1 : Int32)))))) h0 n0) 0 0 _
  refine OwnFin.step (g' := (mkF m 31 #[.val (.int p0)] [(.int p0)])) X0 (fun t k => XS.iloadN X0.here hx rfl (hb hby d1_30) rfl k) ?_
  refine OwnFin.step (g' := (mkF m 33 #[.val (.int p0)] [(.int (57344 : Int32)), (.int p0)])) X0 (fun t k => X0.ldcInt hx hown (mvT hZ (hw _ (List.mem_of_getElem? (i := 17) rfl))) (g := (mkF m 31 #[.val (.int p0)] [(.int p0)])) rfl (hb hby d1_31) _ k) ?_
  by_cases hc6 : p0 < (57344 : Int32)
  · rw [if_pos hc6]
    refine OwnFin.step (g' := (mkF m 42 #[.val (.int p0)] [])) X0 (fun t k => XS.icmpYes X0.here hx rfl (pc0 := 33) (pc' := 42) rfl (hb hby d1_33) rfl (tlt hc6).1 (by decide) (by decide) k) ?_
    exact j1_42 X0 hx hZ hw hby hml hown e0 N0 Z0 p0
  · rw [if_neg hc6]
    refine OwnFin.step (g' := (mkF m 36 #[.val (.int p0)] [])) X0 (fun t k => XS.icmpNo X0.here hx rfl (hb hby d1_33) rfl (flt hc6).1 k) ?_
    refine OwnFin.step (g' := (mkF m 37 #[.val (.int p0)] [(.int p0)])) X0 (fun t k => XS.iloadN X0.here hx rfl (hb hby d1_36) rfl k) ?_
    refine OwnFin.step (g' := (mkF m 39 #[.val (.int p0)] [(.int (65533 : Int32)), (.int p0)])) X0 (fun t k => X0.ldcInt hx hown (mvT hZ (hw _ (List.mem_of_getElem? (i := 24) rfl))) (g := (mkF m 37 #[.val (.int p0)] [(.int p0)])) rfl (hb hby d1_37) _ k) ?_
    by_cases hc7 : (65533 : Int32) < p0
    · rw [if_pos hc7]
      refine OwnFin.step (g' := (mkF m 42 #[.val (.int p0)] [])) X0 (fun t k => XS.icmpNo X0.here hx rfl (hb hby d1_39) rfl (tlt hc7).2.2.2 k) ?_
      exact j1_42 X0 hx hZ hw hby hml hown e0 N0 Z0 p0
    · rw [if_neg hc7]
      refine OwnFin.step (g' := (mkF m 54 #[.val (.int p0)] [])) X0 (fun t k => XS.icmpYes X0.here hx rfl (pc0 := 39) (pc' := 54) rfl (hb hby d1_39) rfl (flt hc7).2.2.2 (by decide) (by decide) k) ?_
      refine OwnFin.step (g' := (mkF m 55 #[.val (.int p0)] [(.int (1 : Int32))])) X0 (fun t k => XS.iconst X0.here hx rfl (hb hby d1_54) k) ?_
      refine OwnFin.step (g' := (mkF m 59 #[.val (.int p0)] [(.int (1 : Int32))])) X0 (fun t k => XS.goto X0.here hx rfl (pc0 := 55) (pc' := 59) rfl (hb hby d1_55) (by decide) (by decide) k) ?_
      exact OwnFin.retNar X0 (by simp) (hb hby d1_59) (Nat.le_refl _) (Nat.le_refl _) ⟨rfl, e0, N0⟩
def f1_0 (p0 : Int32) : Int32 := (if p0 = (9 : Int32) then (1 : Int32) else (if p0 = (10 : Int32) then (1 : Int32) else (if p0 = (13 : Int32) then (1 : Int32) else (if p0 < (32 : Int32) then (f1_30 p0) else (if (55295 : Int32) < p0 then (f1_30 p0) else (1 : Int32))))))
set_option maxRecDepth 65536 in
set_option maxHeartbeats 40000000 in
theorem j1_0 {p : Program} {l : Launch} {e : Env} {s : State} {m : MethodId} {args : Array Value} {below : List Frame} {meth : Method} {c : Code} {T0 : State} {locs : List Loc} {Z : State} {a0 : Array Value} {h0 : Heap} {n0 : Nat}
    (X0 : Stand p l e ({ frames := 0, cells := 0, slots := 0, locals := 0 } : Room) s m args below meth c T0 locs 0 0) (hx : p.tables.exec = Jvm.exec) (hZ : Z.Warmed39 s.vm) (hw : ∀ d ∈ tables_1, d.before a0 Z = true) (hby : c.code = prog_8_method_2_code) (hml : c.maxLocals = 1) (hown : s.vm.findClass "com/example/shapeloom/shapeloom/rdf/XmlCharacters" = some m.cls) (e0 : T0.heap = h0) (N0 : Fr n0 locs) (Z0 : n0 ≤ h0.size) (p0 : Int32) :
    OwnFin X0 (some .boolean) (PQ (some (.int (nar .boolean (f1_0 p0)))) h0 n0) 0 0 (mkF m 0 #[.val (.int p0)] []) := by
  show OwnFin X0 (some .boolean) (PQ (some (.int (nar .boolean (if p0 = (9 : Int32) then (1 : Int32) else (if p0 = (10 : Int32) then (1 : Int32) else (if p0 = (13 : Int32) then (1 : Int32) else (if p0 < (32 : Int32) then (f1_30 p0) else (if (55295 : Int32) < p0 then (f1_30 p0) else (1 : Int32))))))))) h0 n0) 0 0 _
  refine OwnFin.step (g' := (mkF m 1 #[.val (.int p0)] [(.int p0)])) X0 (fun t k => XS.iloadN X0.here hx rfl (hb hby d1_0) rfl k) ?_
  refine OwnFin.step (g' := (mkF m 3 #[.val (.int p0)] [(.int (9 : Int32)), (.int p0)])) X0 (fun t k => XS.bipush X0.here hx rfl (hb hby d1_1) k) ?_
  by_cases hc1 : p0 = (9 : Int32)
  · rw [if_pos hc1]
    refine OwnFin.step (g' := (mkF m 54 #[.val (.int p0)] [])) X0 (fun t k => XS.icmpYes X0.here hx rfl (pc0 := 3) (pc' := 54) rfl (hb hby d1_3) rfl (teq hc1).1 (by decide) (by decide) k) ?_
    refine OwnFin.step (g' := (mkF m 55 #[.val (.int p0)] [(.int (1 : Int32))])) X0 (fun t k => XS.iconst X0.here hx rfl (hb hby d1_54) k) ?_
    refine OwnFin.step (g' := (mkF m 59 #[.val (.int p0)] [(.int (1 : Int32))])) X0 (fun t k => XS.goto X0.here hx rfl (pc0 := 55) (pc' := 59) rfl (hb hby d1_55) (by decide) (by decide) k) ?_
    exact OwnFin.retNar X0 (by simp) (hb hby d1_59) (Nat.le_refl _) (Nat.le_refl _) ⟨rfl, e0, N0⟩
  · rw [if_neg hc1]
    refine OwnFin.step (g' := (mkF m 6 #[.val (.int p0)] [])) X0 (fun t k => XS.icmpNo X0.here hx rfl (hb hby d1_3) rfl (feq hc1).1 k) ?_
    refine OwnFin.step (g' := (mkF m 7 #[.val (.int p0)] [(.int p0)])) X0 (fun t k => XS.iloadN X0.here hx rfl (hb hby d1_6) rfl k) ?_
    refine OwnFin.step (g' := (mkF m 9 #[.val (.int p0)] [(.int (10 : Int32)), (.int p0)])) X0 (fun t k => XS.bipush X0.here hx rfl (hb hby d1_7) k) ?_
    by_cases hc2 : p0 = (10 : Int32)
    · rw [if_pos hc2]
      refine OwnFin.step (g' := (mkF m 54 #[.val (.int p0)] [])) X0 (fun t k => XS.icmpYes X0.here hx rfl (pc0 := 9) (pc' := 54) rfl (hb hby d1_9) rfl (teq hc2).1 (by decide) (by decide) k) ?_
      refine OwnFin.step (g' := (mkF m 55 #[.val (.int p0)] [(.int (1 : Int32))])) X0 (fun t k => XS.iconst X0.here hx rfl (hb hby d1_54) k) ?_
      refine OwnFin.step (g' := (mkF m 59 #[.val (.int p0)] [(.int (1 : Int32))])) X0 (fun t k => XS.goto X0.here hx rfl (pc0 := 55) (pc' := 59) rfl (hb hby d1_55) (by decide) (by decide) k) ?_
      exact OwnFin.retNar X0 (by simp) (hb hby d1_59) (Nat.le_refl _) (Nat.le_refl _) ⟨rfl, e0, N0⟩
    · rw [if_neg hc2]
      refine OwnFin.step (g' := (mkF m 12 #[.val (.int p0)] [])) X0 (fun t k => XS.icmpNo X0.here hx rfl (hb hby d1_9) rfl (feq hc2).1 k) ?_
      refine OwnFin.step (g' := (mkF m 13 #[.val (.int p0)] [(.int p0)])) X0 (fun t k => XS.iloadN X0.here hx rfl (hb hby d1_12) rfl k) ?_
      refine OwnFin.step (g' := (mkF m 15 #[.val (.int p0)] [(.int (13 : Int32)), (.int p0)])) X0 (fun t k => XS.bipush X0.here hx rfl (hb hby d1_13) k) ?_
      by_cases hc3 : p0 = (13 : Int32)
      · rw [if_pos hc3]
        refine OwnFin.step (g' := (mkF m 54 #[.val (.int p0)] [])) X0 (fun t k => XS.icmpYes X0.here hx rfl (pc0 := 15) (pc' := 54) rfl (hb hby d1_15) rfl (teq hc3).1 (by decide) (by decide) k) ?_
        refine OwnFin.step (g' := (mkF m 55 #[.val (.int p0)] [(.int (1 : Int32))])) X0 (fun t k => XS.iconst X0.here hx rfl (hb hby d1_54) k) ?_
        refine OwnFin.step (g' := (mkF m 59 #[.val (.int p0)] [(.int (1 : Int32))])) X0 (fun t k => XS.goto X0.here hx rfl (pc0 := 55) (pc' := 59) rfl (hb hby d1_55) (by decide) (by decide) k) ?_
        exact OwnFin.retNar X0 (by simp) (hb hby d1_59) (Nat.le_refl _) (Nat.le_refl _) ⟨rfl, e0, N0⟩
      · rw [if_neg hc3]
        refine OwnFin.step (g' := (mkF m 18 #[.val (.int p0)] [])) X0 (fun t k => XS.icmpNo X0.here hx rfl (hb hby d1_15) rfl (feq hc3).1 k) ?_
        refine OwnFin.step (g' := (mkF m 19 #[.val (.int p0)] [(.int p0)])) X0 (fun t k => XS.iloadN X0.here hx rfl (hb hby d1_18) rfl k) ?_
        refine OwnFin.step (g' := (mkF m 21 #[.val (.int p0)] [(.int (32 : Int32)), (.int p0)])) X0 (fun t k => XS.bipush X0.here hx rfl (hb hby d1_19) k) ?_
        by_cases hc4 : p0 < (32 : Int32)
        · rw [if_pos hc4]
          refine OwnFin.step (g' := (mkF m 30 #[.val (.int p0)] [])) X0 (fun t k => XS.icmpYes X0.here hx rfl (pc0 := 21) (pc' := 30) rfl (hb hby d1_21) rfl (tlt hc4).1 (by decide) (by decide) k) ?_
          exact j1_30 X0 hx hZ hw hby hml hown e0 N0 Z0 p0
        · rw [if_neg hc4]
          refine OwnFin.step (g' := (mkF m 24 #[.val (.int p0)] [])) X0 (fun t k => XS.icmpNo X0.here hx rfl (hb hby d1_21) rfl (flt hc4).1 k) ?_
          refine OwnFin.step (g' := (mkF m 25 #[.val (.int p0)] [(.int p0)])) X0 (fun t k => XS.iloadN X0.here hx rfl (hb hby d1_24) rfl k) ?_
          refine OwnFin.step (g' := (mkF m 27 #[.val (.int p0)] [(.int (55295 : Int32)), (.int p0)])) X0 (fun t k => X0.ldcInt hx hown (mvT hZ (hw _ (List.mem_of_getElem? (i := 23) rfl))) (g := (mkF m 25 #[.val (.int p0)] [(.int p0)])) rfl (hb hby d1_25) _ k) ?_
          by_cases hc5 : (55295 : Int32) < p0
          · rw [if_pos hc5]
            refine OwnFin.step (g' := (mkF m 30 #[.val (.int p0)] [])) X0 (fun t k => XS.icmpNo X0.here hx rfl (hb hby d1_27) rfl (tlt hc5).2.2.2 k) ?_
            exact j1_30 X0 hx hZ hw hby hml hown e0 N0 Z0 p0
          · rw [if_neg hc5]
            refine OwnFin.step (g' := (mkF m 54 #[.val (.int p0)] [])) X0 (fun t k => XS.icmpYes X0.here hx rfl (pc0 := 27) (pc' := 54) rfl (hb hby d1_27) rfl (flt hc5).2.2.2 (by decide) (by decide) k) ?_
            refine OwnFin.step (g' := (mkF m 55 #[.val (.int p0)] [(.int (1 : Int32))])) X0 (fun t k => XS.iconst X0.here hx rfl (hb hby d1_54) k) ?_
            refine OwnFin.step (g' := (mkF m 59 #[.val (.int p0)] [(.int (1 : Int32))])) X0 (fun t k => XS.goto X0.here hx rfl (pc0 := 55) (pc' := 59) rfl (hb hby d1_55) (by decide) (by decide) k) ?_
            exact OwnFin.retNar X0 (by simp) (hb hby d1_59) (Nat.le_refl _) (Nat.le_refl _) ⟨rfl, e0, N0⟩
def r1 (p0 : Int32) : Int32 := nar .boolean (f1_0 p0)
set_option maxRecDepth 65536 in
set_option maxHeartbeats 40000000 in
theorem rm1 (l : Launch) (Z : State) (a0 : Array Value) (hw : ∀ d ∈ tables_1, d.before a0 Z = true) (ws : List Jvm.Cond) (p0 : Int32) (h0 : Heap) (n0 : Nat) (Z0 : n0 ≤ h0.size) :
    MetFree l (⟨"com/example/shapeloom/shapeloom/rdf/XmlCharacters", "isChar", "(I)Z"⟩ : MethodName) (head1 (Jvm.Cond.code (⟨"com/example/shapeloom/shapeloom/rdf/XmlCharacters", "isChar", "(I)Z"⟩ : MethodName) prog_8_method_2_code 1 (some .boolean) :: ws) ({ frames := 0, cells := 0, slots := 0, locals := 0 } : Room)) (fun a U => a = #[(.int p0)] ∧ Z.Warmed39 U.vm ∧ U.heap = h0) (fun _ _ _ _ _ => True) (fun _ U o U' => ∃ v L, o = .returned v ∧ PQ (some (.int (r1 p0))) h0 n0 v U'.heap L ∧ FrameEnd U o U' L ({ frames := 0, cells := 0, slots := 0, locals := 0 } : Room).cells ({ frames := 0, cells := 0, slots := 0, locals := 0 } : Room).slots) :=
  own_met (ret := (some .boolean)) (plainFor_of_name pn_1) (fun m => ef_1 m p0) (fun p e s m below meth c s₁ X hx hby hml hown hnm hZ e0 => OwnFin.wide (j1_0 X hx hZ hw hby hml hown e0 (Fr.nil n0) Z0 p0) (Nat.zero_le _) (Nat.zero_le _))
/-! body 2: com/example/shapeloom/shapeloom/rdf/XmlCharactersIsCharPinLaw.forbidden:(I)Z -/
theorem d2_0 : decode method_2_code 0 = .ok (.iload_n 0, 1) := by decide +kernel
theorem d2_1 : decode method_2_code 1 = .ok (.ifCond .ge 5, 3) := by decide +kernel
theorem d2_4 : decode method_2_code 4 = .ok (.iconst 1, 1) := by decide +kernel
theorem d2_5 : decode method_2_code 5 = .ok (.ireturn, 1) := by decide +kernel
theorem d2_6 : decode method_2_code 6 = .ok (.iload_n 0, 1) := by decide +kernel
theorem d2_7 : decode method_2_code 7 = .ok (.ldc 7, 2) := by decide +kernel
theorem d2_9 : decode method_2_code 9 = .ok (.if_icmp .le 5, 3) := by decide +kernel
theorem d2_12 : decode method_2_code 12 = .ok (.iconst 1, 1) := by decide +kernel
theorem d2_13 : decode method_2_code 13 = .ok (.ireturn, 1) := by decide +kernel
theorem d2_14 : decode method_2_code 14 = .ok (.iload_n 0, 1) := by decide +kernel
theorem d2_15 : decode method_2_code 15 = .ok (.bipush 32, 2) := by decide +kernel
theorem d2_17 : decode method_2_code 17 = .ok (.if_icmp .ge 27, 3) := by decide +kernel
theorem d2_20 : decode method_2_code 20 = .ok (.iload_n 0, 1) := by decide +kernel
theorem d2_21 : decode method_2_code 21 = .ok (.bipush 9, 2) := by decide +kernel
theorem d2_23 : decode method_2_code 23 = .ok (.if_icmp .eq 19, 3) := by decide +kernel
theorem d2_26 : decode method_2_code 26 = .ok (.iload_n 0, 1) := by decide +kernel
theorem d2_27 : decode method_2_code 27 = .ok (.bipush 10, 2) := by decide +kernel
theorem d2_29 : decode method_2_code 29 = .ok (.if_icmp .eq 13, 3) := by decide +kernel
theorem d2_32 : decode method_2_code 32 = .ok (.iload_n 0, 1) := by decide +kernel
theorem d2_33 : decode method_2_code 33 = .ok (.bipush 13, 2) := by decide +kernel
theorem d2_35 : decode method_2_code 35 = .ok (.if_icmp .eq 7, 3) := by decide +kernel
theorem d2_38 : decode method_2_code 38 = .ok (.iconst 1, 1) := by decide +kernel
theorem d2_39 : decode method_2_code 39 = .ok (.goto 4, 3) := by decide +kernel
theorem d2_42 : decode method_2_code 42 = .ok (.iconst 0, 1) := by decide +kernel
theorem d2_43 : decode method_2_code 43 = .ok (.ireturn, 1) := by decide +kernel
theorem d2_44 : decode method_2_code 44 = .ok (.iload_n 0, 1) := by decide +kernel
theorem d2_45 : decode method_2_code 45 = .ok (.ldc 8, 2) := by decide +kernel
theorem d2_47 : decode method_2_code 47 = .ok (.if_icmp .lt 11, 3) := by decide +kernel
theorem d2_50 : decode method_2_code 50 = .ok (.iload_n 0, 1) := by decide +kernel
theorem d2_51 : decode method_2_code 51 = .ok (.ldc 9, 2) := by decide +kernel
theorem d2_53 : decode method_2_code 53 = .ok (.if_icmp .gt 5, 3) := by decide +kernel
theorem d2_56 : decode method_2_code 56 = .ok (.iconst 1, 1) := by decide +kernel
theorem d2_57 : decode method_2_code 57 = .ok (.ireturn, 1) := by decide +kernel
theorem d2_58 : decode method_2_code 58 = .ok (.iload_n 0, 1) := by decide +kernel
theorem d2_59 : decode method_2_code 59 = .ok (.ldc 10, 2) := by decide +kernel
theorem d2_61 : decode method_2_code 61 = .ok (.if_icmp .eq 9, 3) := by decide +kernel
theorem d2_64 : decode method_2_code 64 = .ok (.iload_n 0, 1) := by decide +kernel
theorem d2_65 : decode method_2_code 65 = .ok (.ldc 11, 2) := by decide +kernel
theorem d2_67 : decode method_2_code 67 = .ok (.if_icmp .ne 7, 3) := by decide +kernel
theorem d2_70 : decode method_2_code 70 = .ok (.iconst 1, 1) := by decide +kernel
theorem d2_71 : decode method_2_code 71 = .ok (.goto 4, 3) := by decide +kernel
theorem d2_74 : decode method_2_code 74 = .ok (.iconst 0, 1) := by decide +kernel
theorem d2_75 : decode method_2_code 75 = .ok (.ireturn, 1) := by decide +kernel
theorem pn_2 : plainName "com/example/shapeloom/shapeloom/rdf/XmlCharactersIsCharPinLaw" = true := by first | (simp [plainName, overriddenIn]; done) | decide +kernel
theorem ef_2 (m : MethodId) (p0 : Int32) : entryFrame m #[(.int p0)] 1 = mkF m 0 #[.val (.int p0)] [] := by first | (simp [entryFrame, mkF, argsToLocals, Value.category]; done) | rfl
def f2_58 (p0 : Int32) : Int32 := (if p0 = (65534 : Int32) then (1 : Int32) else (if p0 = (65535 : Int32) then (1 : Int32) else (0 : Int32)))
set_option maxRecDepth 65536 in
set_option maxHeartbeats 40000000 in
theorem j2_58 {p : Program} {l : Launch} {e : Env} {s : State} {m : MethodId} {args : Array Value} {below : List Frame} {meth : Method} {c : Code} {T0 : State} {locs : List Loc} {Z : State} {a0 : Array Value} {h0 : Heap} {n0 : Nat}
    (X0 : Stand p l e ({ frames := 0, cells := 0, slots := 0, locals := 0 } : Room) s m args below meth c T0 locs 0 0) (hx : p.tables.exec = Jvm.exec) (hZ : Z.Warmed39 s.vm) (hw : ∀ d ∈ tables_1, d.before a0 Z = true) (hby : c.code = method_2_code) (hml : c.maxLocals = 1) (hown : s.vm.findClass "com/example/shapeloom/shapeloom/rdf/XmlCharactersIsCharPinLaw" = some m.cls) (e0 : T0.heap = h0) (N0 : Fr n0 locs) (Z0 : n0 ≤ h0.size) (p0 : Int32) :
    OwnFin X0 (some .boolean) (PQ (some (.int (nar .boolean (f2_58 p0)))) h0 n0) 0 0 (mkF m 58 #[.val (.int p0)] []) := by
  show OwnFin X0 (some .boolean) (PQ (some (.int (nar .boolean (if p0 = (65534 : Int32) then (1 : Int32) else (if p0 = (65535 : Int32) then (1 : Int32) else (0 : Int32)))))) h0 n0) 0 0 _
  refine OwnFin.step (g' := (mkF m 59 #[.val (.int p0)] [(.int p0)])) X0 (fun t k => XS.iloadN X0.here hx rfl (hb hby d2_58) rfl k) ?_
  refine OwnFin.step (g' := (mkF m 61 #[.val (.int p0)] [(.int (65534 : Int32)), (.int p0)])) X0 (fun t k => X0.ldcInt hx hown (mvT hZ (hw _ (List.mem_of_getElem? (i := 7) rfl))) (g := (mkF m 59 #[.val (.int p0)] [(.int p0)])) rfl (hb hby d2_59) _ k) ?_
  by_cases hc9 : p0 = (65534 : Int32)
  · rw [if_pos hc9]
    refine OwnFin.step (g' := (mkF m 70 #[.val (.int p0)] [])) X0 (fun t k => XS.icmpYes X0.here hx rfl (pc0 := 61) (pc' := 70) rfl (hb hby d2_61) rfl (teq hc9).1 (by decide) (by decide) k) ?_
    refine OwnFin.step (g' := (mkF m 71 #[.val (.int p0)] [(.int (1 : Int32))])) X0 (fun t k => XS.iconst X0.here hx rfl (hb hby d2_70) k) ?_
    refine OwnFin.step (g' := (mkF m 75 #[.val (.int p0)] [(.int (1 : Int32))])) X0 (fun t k => XS.goto X0.here hx rfl (pc0 := 71) (pc' := 75) rfl (hb hby d2_71) (by decide) (by decide) k) ?_
    exact OwnFin.retNar X0 (by simp) (hb hby d2_75) (Nat.le_refl _) (Nat.le_refl _) ⟨rfl, e0, N0⟩
  · rw [if_neg hc9]
    refine OwnFin.step (g' := (mkF m 64 #[.val (.int p0)] [])) X0 (fun t k => XS.icmpNo X0.here hx rfl (hb hby d2_61) rfl (feq hc9).1 k) ?_
    refine OwnFin.step (g' := (mkF m 65 #[.val (.int p0)] [(.int p0)])) X0 (fun t k => XS.iloadN X0.here hx rfl (hb hby d2_64) rfl k) ?_
    refine OwnFin.step (g' := (mkF m 67 #[.val (.int p0)] [(.int (65535 : Int32)), (.int p0)])) X0 (fun t k => X0.ldcInt hx hown (mvT hZ (hw _ (List.mem_of_getElem? (i := 8) rfl))) (g := (mkF m 65 #[.val (.int p0)] [(.int p0)])) rfl (hb hby d2_65) _ k) ?_
    by_cases hc10 : p0 = (65535 : Int32)
    · rw [if_pos hc10]
      refine OwnFin.step (g' := (mkF m 70 #[.val (.int p0)] [])) X0 (fun t k => XS.icmpNo X0.here hx rfl (hb hby d2_67) rfl (teq hc10).2 k) ?_
      refine OwnFin.step (g' := (mkF m 71 #[.val (.int p0)] [(.int (1 : Int32))])) X0 (fun t k => XS.iconst X0.here hx rfl (hb hby d2_70) k) ?_
      refine OwnFin.step (g' := (mkF m 75 #[.val (.int p0)] [(.int (1 : Int32))])) X0 (fun t k => XS.goto X0.here hx rfl (pc0 := 71) (pc' := 75) rfl (hb hby d2_71) (by decide) (by decide) k) ?_
      exact OwnFin.retNar X0 (by simp) (hb hby d2_75) (Nat.le_refl _) (Nat.le_refl _) ⟨rfl, e0, N0⟩
    · rw [if_neg hc10]
      refine OwnFin.step (g' := (mkF m 74 #[.val (.int p0)] [])) X0 (fun t k => XS.icmpYes X0.here hx rfl (pc0 := 67) (pc' := 74) rfl (hb hby d2_67) rfl (feq hc10).2 (by decide) (by decide) k) ?_
      refine OwnFin.step (g' := (mkF m 75 #[.val (.int p0)] [(.int (0 : Int32))])) X0 (fun t k => XS.iconst X0.here hx rfl (hb hby d2_74) k) ?_
      exact OwnFin.retNar X0 (by simp) (hb hby d2_75) (Nat.le_refl _) (Nat.le_refl _) ⟨rfl, e0, N0⟩
def f2_0 (p0 : Int32) : Int32 := (if p0 < (0 : Int32) then (1 : Int32) else (if (1114111 : Int32) < p0 then (1 : Int32) else (if p0 < (32 : Int32) then (if p0 = (9 : Int32) then (0 : Int32) else (if p0 = (10 : Int32) then (0 : Int32) else (if p0 = (13 : Int32) then (0 : Int32) else (1 : Int32)))) else (if p0 < (55296 : Int32) then (f2_58 p0) else (if (57343 : Int32) < p0 then (f2_58 p0) else (1 : Int32))))))
set_option maxRecDepth 65536 in
set_option maxHeartbeats 40000000 in
theorem j2_0 {p : Program} {l : Launch} {e : Env} {s : State} {m : MethodId} {args : Array Value} {below : List Frame} {meth : Method} {c : Code} {T0 : State} {locs : List Loc} {Z : State} {a0 : Array Value} {h0 : Heap} {n0 : Nat}
    (X0 : Stand p l e ({ frames := 0, cells := 0, slots := 0, locals := 0 } : Room) s m args below meth c T0 locs 0 0) (hx : p.tables.exec = Jvm.exec) (hZ : Z.Warmed39 s.vm) (hw : ∀ d ∈ tables_1, d.before a0 Z = true) (hby : c.code = method_2_code) (hml : c.maxLocals = 1) (hown : s.vm.findClass "com/example/shapeloom/shapeloom/rdf/XmlCharactersIsCharPinLaw" = some m.cls) (e0 : T0.heap = h0) (N0 : Fr n0 locs) (Z0 : n0 ≤ h0.size) (p0 : Int32) :
    OwnFin X0 (some .boolean) (PQ (some (.int (nar .boolean (f2_0 p0)))) h0 n0) 0 0 (mkF m 0 #[.val (.int p0)] []) := by
  show OwnFin X0 (some .boolean) (PQ (some (.int (nar .boolean (if p0 < (0 : Int32) then (1 : Int32) else (if (1114111 : Int32) < p0 then (1 : Int32) else (if p0 < (32 : Int32) then (if p0 = (9 : Int32) then (0 : Int32) else (if p0 = (10 : Int32) then (0 : Int32) else (if p0 = (13 : Int32) then (0 : Int32) else (1 : Int32)))) else (if p0 < (55296 : Int32) then (f2_58 p0) else (if (57343 : Int32) < p0 then (f2_58 p0) else (1 : Int32))))))))) h0 n0) 0 0 _
  refine OwnFin.step (g' := (mkF m 1 #[.val (.int p0)] [(.int p0)])) X0 (fun t k => XS.iloadN X0.here hx rfl (hb hby d2_0) rfl k) ?_
  by_cases hc1 : p0 < (0 : Int32)
  · rw [if_pos hc1]
    refine OwnFin.step (g' := (mkF m 4 #[.val (.int p0)] [])) X0 (fun t k => XS.ifNo X0.here hx rfl (hb hby d2_1) rfl ((if0 _ _).trans (tlt hc1).2.1) k) ?_
    refine OwnFin.step (g' := (mkF m 5 #[.val (.int p0)] [(.int (1 : Int32))])) X0 (fun t k => XS.iconst X0.here hx rfl (hb hby d2_4) k) ?_
    exact OwnFin.retNar X0 (by simp) (hb hby d2_5) (Nat.le_refl _) (Nat.le_refl _) ⟨rfl, e0, N0⟩
  · rw [if_neg hc1]
    refine OwnFin.step (g' := (mkF m 6 #[.val (.int p0)] [])) X0 (fun t k => XS.ifYes X0.here hx rfl (pc0 := 1) (pc' := 6) rfl (hb hby d2_1) rfl ((if0 _ _).trans (flt hc1).2.1) (by decide) (by decide) k) ?_
    refine OwnFin.step (g' := (mkF m 7 #[.val (.int p0)] [(.int p0)])) X0 (fun t k => XS.iloadN X0.here hx rfl (hb hby d2_6) rfl k) ?_
    refine OwnFin.step (g' := (mkF m 9 #[.val (.int p0)] [(.int (1114111 : Int32)), (.int p0)])) X0 (fun t k => X0.ldcInt hx hown (mvT hZ (hw _ (List.mem_of_getElem? (i := 10) rfl))) (g := (mkF m 7 #[.val (.int p0)] [(.int p0)])) rfl (hb hby d2_7) _ k) ?_
    by_cases hc2 : (1114111 : Int32) < p0
    · rw [if_pos hc2]
      refine OwnFin.step (g' := (mkF m 12 #[.val (.int p0)] [])) X0 (fun t k => XS.icmpNo X0.here hx rfl (hb hby d2_9) rfl (tlt hc2).2.2.2 k) ?_
      refine OwnFin.step (g' := (mkF m 13 #[.val (.int p0)] [(.int (1 : Int32))])) X0 (fun t k => XS.iconst X0.here hx rfl (hb hby d2_12) k) ?_
      exact OwnFin.retNar X0 (by simp) (hb hby d2_13) (Nat.le_refl _) (Nat.le_refl _) ⟨rfl, e0, N0⟩
    · rw [if_neg hc2]
      refine OwnFin.step (g' := (mkF m 14 #[.val (.int p0)] [])) X0 (fun t k => XS.icmpYes X0.here hx rfl (pc0 := 9) (pc' := 14) rfl (hb hby d2_9) rfl (flt hc2).2.2.2 (by decide) (by decide) k) ?_
      refine OwnFin.step (g' := (mkF m 15 #[.val (.int p0)] [(.int p0)])) X0 (fun t k => XS.iloadN X0.here hx rfl (hb hby d2_14) rfl k) ?_
      refine OwnFin.step (g' := (mkF m 17 #[.val (.int p0)] [(.int (32 : Int32)), (.int p0)])) X0 (fun t k => XS.bipush X0.here hx rfl (hb hby d2_15) k) ?_
      by_cases hc3 : p0 < (32 : Int32)
      · rw [if_pos hc3]
        refine OwnFin.step (g' := (mkF m 20 #[.val (.int p0)] [])) X0 (fun t k => XS.icmpNo X0.here hx rfl (hb hby d2_17) rfl (tlt hc3).2.1 k) ?_
        refine OwnFin.step (g' := (mkF m 21 #[.val (.int p0)] [(.int p0)])) X0 (fun t k => XS.iloadN X0.here hx rfl (hb hby d2_20) rfl k) ?_
        refine OwnFin.step (g' := (mkF m 23 #[.val (.int p0)] [(.int (9 : Int32)), (.int p0)])) X0 (fun t k => XS.bipush X0.here hx rfl (hb hby d2_21) k) ?_
        by_cases hc4 : p0 = (9 : Int32)
        · rw [if_pos hc4]
          refine OwnFin.step (g' := (mkF m 42 #[.val (.int p0)] [])) X0 (fun t k => XS.icmpYes X0.here hx rfl (pc0 := 23) (pc' := 42) rfl (hb hby d2_23) rfl (teq hc4).1 (by decide) (by decide) k) ?_
          refine OwnFin.step (g' := (mkF m 43 #[.val (.int p0)] [(.int (0 : Int32))])) X0 (fun t k => XS.iconst X0.here hx rfl (hb hby d2_42) k) ?_
          exact OwnFin.retNar X0 (by simp) (hb hby d2_43) (Nat.le_refl _) (Nat.le_refl _) ⟨rfl, e0, N0⟩
        · rw [if_neg hc4]
          refine OwnFin.step (g' := (mkF m 26 #[.val (.int p0)] [])) X0 (fun t k => XS.icmpNo X0.here hx rfl (hb hby d2_23) rfl (feq hc4).1 k) ?_
          refine OwnFin.step (g' := (mkF m 27 #[.val (.int p0)] [(.int p0)])) X0 (fun t k => XS.iloadN X0.here hx rfl (hb hby d2_26) rfl k) ?_
          refine OwnFin.step (g' := (mkF m 29 #[.val (.int p0)] [(.int (10 : Int32)), (.int p0)])) X0 (fun t k => XS.bipush X0.here hx rfl (hb hby d2_27) k) ?_
          by_cases hc5 : p0 = (10 : Int32)
          · rw [if_pos hc5]
            refine OwnFin.step (g' := (mkF m 42 #[.val (.int p0)] [])) X0 (fun t k => XS.icmpYes X0.here hx rfl (pc0 := 29) (pc' := 42) rfl (hb hby d2_29) rfl (teq hc5).1 (by decide) (by decide) k) ?_
            refine OwnFin.step (g' := (mkF m 43 #[.val (.int p0)] [(.int (0 : Int32))])) X0 (fun t k => XS.iconst X0.here hx rfl (hb hby d2_42) k) ?_
            exact OwnFin.retNar X0 (by simp) (hb hby d2_43) (Nat.le_refl _) (Nat.le_refl _) ⟨rfl, e0, N0⟩
          · rw [if_neg hc5]
            refine OwnFin.step (g' := (mkF m 32 #[.val (.int p0)] [])) X0 (fun t k => XS.icmpNo X0.here hx rfl (hb hby d2_29) rfl (feq hc5).1 k) ?_
            refine OwnFin.step (g' := (mkF m 33 #[.val (.int p0)] [(.int p0)])) X0 (fun t k => XS.iloadN X0.here hx rfl (hb hby d2_32) rfl k) ?_
            refine OwnFin.step (g' := (mkF m 35 #[.val (.int p0)] [(.int (13 : Int32)), (.int p0)])) X0 (fun t k => XS.bipush X0.here hx rfl (hb hby d2_33) k) ?_
            by_cases hc6 : p0 = (13 : Int32)
            · rw [if_pos hc6]
              refine OwnFin.step (g' := (mkF m 42 #[.val (.int p0)] [])) X0 (fun t k => XS.icmpYes X0.here hx rfl (pc0 := 35) (pc' := 42) rfl (hb hby d2_35) rfl (teq hc6).1 (by decide) (by decide) k) ?_
              refine OwnFin.step (g' := (mkF m 43 #[.val (.int p0)] [(.int (0 : Int32))])) X0 (fun t k => XS.iconst X0.here hx rfl (hb hby d2_42) k) ?_
              exact OwnFin.retNar X0 (by simp) (hb hby d2_43) (Nat.le_refl _) (Nat.le_refl _) ⟨rfl, e0, N0⟩
            · rw [if_neg hc6]
              refine OwnFin.step (g' := (mkF m 38 #[.val (.int p0)] [])) X0 (fun t k => XS.icmpNo X0.here hx rfl (hb hby d2_35) rfl (feq hc6).1 k) ?_
              refine OwnFin.step (g' := (mkF m 39 #[.val (.int p0)] [(.int (1 : Int32))])) X0 (fun t k => XS.iconst X0.here hx rfl (hb hby d2_38) k) ?_
              refine OwnFin.step (g' := (mkF m 43 #[.val (.int p0)] [(.int (1 : Int32))])) X0 (fun t k => XS.goto X0.here hx rfl (pc0 := 39) (pc' := 43) rfl (hb hby d2_39) (by decide) (by decide) k) ?_
              exact OwnFin.retNar X0 (by simp) (hb hby d2_43) (Nat.le_refl _) (Nat.le_refl _) ⟨rfl, e0, N0⟩
      · rw [if_neg hc3]
        refine OwnFin.step (g' := (mkF m 44 #[.val (.int p0)] [])) X0 (fun t k => XS.icmpYes X0.here hx rfl (pc0 := 17) (pc' := 44) rfl (hb hby d2_17) rfl (flt hc3).2.1 (by decide) (by decide) k) ?_
        refine OwnFin.step (g' := (mkF m 45 #[.val (.int p0)] [(.int p0)])) X0 (fun t k => XS.iloadN X0.here hx rfl (hb hby d2_44) rfl k) ?_
        refine OwnFin.step (g' := (mkF m 47 #[.val (.int p0)] [(.int (55296 : Int32)), (.int p0)])) X0 (fun t k => X0.ldcInt hx hown (mvT hZ (hw _ (List.mem_of_getElem? (i := 3) rfl))) (g := (mkF m 45 #[.val (.int p0)] [(.int p0)])) rfl (hb hby d2_45) _ k) ?_
        by_cases hc7 : p0 < (55296 : Int32)
        · rw [if_pos hc7]
          refine OwnFin.step (g' := (mkF m 58 #[.val (.int p0)] [])) X0 (fun t k => XS.icmpYes X0.here hx rfl (pc0 := 47) (pc' := 58) rfl (hb hby d2_47) rfl (tlt hc7).1 (by decide) (by decide) k) ?_
          exact j2_58 X0 hx hZ hw hby hml hown e0 N0 Z0 p0
        · rw [if_neg hc7]
          refine OwnFin.step (g' := (mkF m 50 #[.val (.int p0)] [])) X0 (fun t k => XS.icmpNo X0.here hx rfl (hb hby d2_47) rfl (flt hc7).1 k) ?_
          refine OwnFin.step (g' := (mkF m 51 #[.val (.int p0)] [(.int p0)])) X0 (fun t k => XS.iloadN X0.here hx rfl (hb hby d2_50) rfl k) ?_
          refine OwnFin.step (g' := (mkF m 53 #[.val (.int p0)] [(.int (57343 : Int32)), (.int p0)])) X0 (fun t k => X0.ldcInt hx hown (mvT hZ (hw _ (List.mem_of_getElem? (i := 4) rfl))) (g := (mkF m 51 #[.val (.int p0)] [(.int p0)])) rfl (hb hby d2_51) _ k) ?_
          by_cases hc8 : (57343 : Int32) < p0
          · rw [if_pos hc8]
            refine OwnFin.step (g' := (mkF m 58 #[.val (.int p0)] [])) X0 (fun t k => XS.icmpYes X0.here hx rfl (pc0 := 53) (pc' := 58) rfl (hb hby d2_53) rfl (tlt hc8).2.2.1 (by decide) (by decide) k) ?_
            exact j2_58 X0 hx hZ hw hby hml hown e0 N0 Z0 p0
          · rw [if_neg hc8]
            refine OwnFin.step (g' := (mkF m 56 #[.val (.int p0)] [])) X0 (fun t k => XS.icmpNo X0.here hx rfl (hb hby d2_53) rfl (flt hc8).2.2.1 k) ?_
            refine OwnFin.step (g' := (mkF m 57 #[.val (.int p0)] [(.int (1 : Int32))])) X0 (fun t k => XS.iconst X0.here hx rfl (hb hby d2_56) k) ?_
            exact OwnFin.retNar X0 (by simp) (hb hby d2_57) (Nat.le_refl _) (Nat.le_refl _) ⟨rfl, e0, N0⟩
def r2 (p0 : Int32) : Int32 := nar .boolean (f2_0 p0)
set_option maxRecDepth 65536 in
set_option maxHeartbeats 40000000 in
theorem rm2 (l : Launch) (Z : State) (a0 : Array Value) (hw : ∀ d ∈ tables_1, d.before a0 Z = true) (ws : List Jvm.Cond) (p0 : Int32) (h0 : Heap) (n0 : Nat) (Z0 : n0 ≤ h0.size) :
    MetFree l (⟨"com/example/shapeloom/shapeloom/rdf/XmlCharactersIsCharPinLaw", "forbidden", "(I)Z"⟩ : MethodName) (head1 (Jvm.Cond.code (⟨"com/example/shapeloom/shapeloom/rdf/XmlCharactersIsCharPinLaw", "forbidden", "(I)Z"⟩ : MethodName) method_2_code 1 (some .boolean) :: ws) ({ frames := 0, cells := 0, slots := 0, locals := 0 } : Room)) (fun a U => a = #[(.int p0)] ∧ Z.Warmed39 U.vm ∧ U.heap = h0) (fun _ _ _ _ _ => True) (fun _ U o U' => ∃ v L, o = .returned v ∧ PQ (some (.int (r2 p0))) h0 n0 v U'.heap L ∧ FrameEnd U o U' L ({ frames := 0, cells := 0, slots := 0, locals := 0 } : Room).cells ({ frames := 0, cells := 0, slots := 0, locals := 0 } : Room).slots) :=
  own_met (ret := (some .boolean)) (plainFor_of_name pn_2) (fun m => ef_2 m p0) (fun p e s m below meth c s₁ X hx hby hml hown hnm hZ e0 => OwnFin.wide (j2_0 X hx hZ hw hby hml hown e0 (Fr.nil n0) Z0 p0) (Nat.zero_le _) (Nat.zero_le _))
theorem f1_42_s (c : Int32) : f1_42 c = if (65536 ≤ c.toInt ∧ c.toInt ≤ 1114111) then 1 else 0 := by
  unfold f1_42
  have a0 : (0 : Int32).toInt = 0 := rfl
  have a1 : (1 : Int32).toInt = 1 := rfl
  have a2 : (65536 : Int32).toInt = 65536 := rfl
  have a3 : (1114111 : Int32).toInt = 1114111 := rfl
  simp only [i32lt, i32eq, a0, a1, a2, a3]
  have lo := Int32.le_toInt c
  have hi := Int32.toInt_lt c
  repeat' split
  all_goals first | rfl | (exfalso; omega)
theorem f1_30_s (c : Int32) : f1_30 c = if (57344 ≤ c.toInt ∧ c.toInt ≤ 65533) ∨ (65536 ≤ c.toInt ∧ c.toInt ≤ 1114111) then 1 else 0 := by
  unfold f1_30
  have a0 : (1 : Int32).toInt = 1 := rfl
  have a1 : (57344 : Int32).toInt = 57344 := rfl
  have a2 : (65533 : Int32).toInt = 65533 := rfl
  simp only [f1_42_s, i32lt, i32eq, a0, a1, a2]
  have lo := Int32.le_toInt c
  have hi := Int32.toInt_lt c
  repeat' split
  all_goals first | rfl | (exfalso; omega)
theorem f1_0_s (c : Int32) : f1_0 c = if (9 ≤ c.toInt ∧ c.toInt ≤ 10) ∨ (13 ≤ c.toInt ∧ c.toInt ≤ 13) ∨ (32 ≤ c.toInt ∧ c.toInt ≤ 55295) ∨ (57344 ≤ c.toInt ∧ c.toInt ≤ 65533) ∨ (65536 ≤ c.toInt ∧ c.toInt ≤ 1114111) then 1 else 0 := by
  unfold f1_0
  have a0 : (1 : Int32).toInt = 1 := rfl
  have a1 : (9 : Int32).toInt = 9 := rfl
  have a2 : (10 : Int32).toInt = 10 := rfl
  have a3 : (13 : Int32).toInt = 13 := rfl
  have a4 : (32 : Int32).toInt = 32 := rfl
  have a5 : (55295 : Int32).toInt = 55295 := rfl
  simp only [f1_30_s, i32lt, i32eq, a0, a1, a2, a3, a4, a5]
  have lo := Int32.le_toInt c
  have hi := Int32.toInt_lt c
  repeat' split
  all_goals first | rfl | (exfalso; omega)
theorem f2_58_s (c : Int32) : f2_58 c = if (65534 ≤ c.toInt ∧ c.toInt ≤ 65535) then 1 else 0 := by
  unfold f2_58
  have a0 : (0 : Int32).toInt = 0 := rfl
  have a1 : (1 : Int32).toInt = 1 := rfl
  have a2 : (65534 : Int32).toInt = 65534 := rfl
  have a3 : (65535 : Int32).toInt = 65535 := rfl
  simp only [i32lt, i32eq, a0, a1, a2, a3]
  have lo := Int32.le_toInt c
  have hi := Int32.toInt_lt c
  repeat' split
  all_goals first | rfl | (exfalso; omega)
theorem f2_0_s (c : Int32) : f2_0 c = if (-2147483648 ≤ c.toInt ∧ c.toInt ≤ 8) ∨ (11 ≤ c.toInt ∧ c.toInt ≤ 12) ∨ (14 ≤ c.toInt ∧ c.toInt ≤ 31) ∨ (55296 ≤ c.toInt ∧ c.toInt ≤ 57343) ∨ (65534 ≤ c.toInt ∧ c.toInt ≤ 65535) ∨ (1114112 ≤ c.toInt ∧ c.toInt ≤ 2147483647) then 1 else 0 := by
  unfold f2_0
  have a0 : (0 : Int32).toInt = 0 := rfl
  have a1 : (1 : Int32).toInt = 1 := rfl
  have a2 : (9 : Int32).toInt = 9 := rfl
  have a3 : (10 : Int32).toInt = 10 := rfl
  have a4 : (13 : Int32).toInt = 13 := rfl
  have a5 : (32 : Int32).toInt = 32 := rfl
  have a6 : (55296 : Int32).toInt = 55296 := rfl
  have a7 : (57343 : Int32).toInt = 57343 := rfl
  have a8 : (1114111 : Int32).toInt = 1114111 := rfl
  simp only [f2_58_s, i32lt, i32eq, a0, a1, a2, a3, a4, a5, a6, a7, a8]
  have lo := Int32.le_toInt c
  have hi := Int32.toInt_lt c
  repeat' split
  all_goals first | rfl | (exfalso; omega)
theorem pn_0 : plainName "com/example/shapeloom/shapeloom/rdf/XmlCharactersIsCharPinLaw" = true := by first | (simp [plainName, overriddenIn]; done) | decide +kernel
theorem ef_0 (m : MethodId) (p0 : Int32) (p1 : Int32) (p2 : Int32) : entryFrame m #[(.int p0), (.int p1), (.int p2)] maxLocals = mkF m 0 #[.val (.int p0), .val (.int p1), .val (.int p2), .unset, .unset, .unset, .unset] [] := by first | (simp [entryFrame, mkF, argsToLocals, Value.category, maxLocals]; done) | rfl
theorem pd_0 : parseMethodDescriptor "(I)Z" = some ⟨[.int], some .boolean⟩ := by decide +kernel
def G0_8  : Nat → Int32 := (updN (fun _ => (0 : Int32)) ((0 : Int32)).toNatClampNeg (-2147483648 : Int32))
def G0_12  : Nat → Int32 := (updN (G0_8) ((1 : Int32)).toNatClampNeg (-1 : Int32))
def G0_16  : Nat → Int32 := (updN (G0_12) ((2 : Int32)).toNatClampNeg (0 : Int32))
def G0_21  : Nat → Int32 := (updN (G0_16) ((3 : Int32)).toNatClampNeg (8 : Int32))
def G0_26  : Nat → Int32 := (updN (G0_21) ((4 : Int32)).toNatClampNeg (9 : Int32))
def G0_31  : Nat → Int32 := (updN (G0_26) ((5 : Int32)).toNatClampNeg (10 : Int32))
def G0_37  : Nat → Int32 := (updN (G0_31) ((6 : Int32)).toNatClampNeg (11 : Int32))
def G0_43  : Nat → Int32 := (updN (G0_37) ((7 : Int32)).toNatClampNeg (12 : Int32))
def G0_49  : Nat → Int32 := (updN (G0_43) ((8 : Int32)).toNatClampNeg (13 : Int32))
def G0_55  : Nat → Int32 := (updN (G0_49) ((9 : Int32)).toNatClampNeg (14 : Int32))
def G0_61  : Nat → Int32 := (updN (G0_55) ((10 : Int32)).toNatClampNeg (31 : Int32))
def G0_67  : Nat → Int32 := (updN (G0_61) ((11 : Int32)).toNatClampNeg (32 : Int32))
def G0_73  : Nat → Int32 := (updN (G0_67) ((12 : Int32)).toNatClampNeg (55295 : Int32))
def G0_79  : Nat → Int32 := (updN (G0_73) ((13 : Int32)).toNatClampNeg (55296 : Int32))
def G0_85  : Nat → Int32 := (updN (G0_79) ((14 : Int32)).toNatClampNeg (57343 : Int32))
def G0_91  : Nat → Int32 := (updN (G0_85) ((15 : Int32)).toNatClampNeg (57344 : Int32))
def G0_97  : Nat → Int32 := (updN (G0_91) ((16 : Int32)).toNatClampNeg (65533 : Int32))
def G0_103  : Nat → Int32 := (updN (G0_97) ((17 : Int32)).toNatClampNeg (65534 : Int32))
def G0_109  : Nat → Int32 := (updN (G0_103) ((18 : Int32)).toNatClampNeg (65535 : Int32))
def G0_115  : Nat → Int32 := (updN (G0_109) ((19 : Int32)).toNatClampNeg (65536 : Int32))
def G0_121  : Nat → Int32 := (updN (G0_115) ((20 : Int32)).toNatClampNeg (1114111 : Int32))
def G0_127  : Nat → Int32 := (updN (G0_121) ((21 : Int32)).toNatClampNeg (1114112 : Int32))
def G0_133  : Nat → Int32 := (updN (G0_127) ((22 : Int32)).toNatClampNeg (2147483647 : Int32))
def v0_153 (p1 : Int32) : Int32 := ((XT.ushr p1 (1 : Int32)) % (23 : Int32))
def v0_160 (p2 : Int32) : Int32 := ((p2 &&& (3 : Int32)) - (1 : Int32))
def v0_169 (p1 : Int32) (p2 : Int32) : Int32 := (((G0_133) ((v0_153 p1)).toNatClampNeg) + (v0_160 p2))
def vc1710_176 (c4 : Int32) : Int32 := (r1 c4)
def vc1710_193 (c4 : Int32) : Int32 := (if (r2 c4) = (0 : Int32) then (1 : Int32) else (0 : Int32))
theorem own_eq (c : Int32) : r1 c = if r2 c = 0 then 1 else 0 := by
  have lo := Int32.le_toInt c
  have hi := Int32.toInt_lt c
  have e1 : r1 c = if (9 ≤ c.toInt ∧ c.toInt ≤ 10) ∨ (13 ≤ c.toInt ∧ c.toInt ≤ 13) ∨ (32 ≤ c.toInt ∧ c.toInt ≤ 55295) ∨ (57344 ≤ c.toInt ∧ c.toInt ≤ 65533) ∨ (65536 ≤ c.toInt ∧ c.toInt ≤ 1114111) then 1 else 0 := by unfold r1; rw [f1_0_s]; exact narI _
  have e2 : r2 c = if (-2147483648 ≤ c.toInt ∧ c.toInt ≤ 8) ∨ (11 ≤ c.toInt ∧ c.toInt ≤ 12) ∨ (14 ≤ c.toInt ∧ c.toInt ≤ 31) ∨ (55296 ≤ c.toInt ∧ c.toInt ≤ 57343) ∨ (65534 ≤ c.toInt ∧ c.toInt ≤ 65535) ∨ (1114112 ≤ c.toInt ∧ c.toInt ≤ 2147483647) then 1 else 0 := by unfold r2; rw [f2_0_s]; exact narI _
  rw [e1, e2]
  by_cases q : (9 ≤ c.toInt ∧ c.toInt ≤ 10) ∨ (13 ≤ c.toInt ∧ c.toInt ≤ 13) ∨ (32 ≤ c.toInt ∧ c.toInt ≤ 55295) ∨ (57344 ≤ c.toInt ∧ c.toInt ≤ 65533) ∨ (65536 ≤ c.toInt ∧ c.toInt ≤ 1114111)
  · rw [if_pos q, if_neg (show ¬ ((-2147483648 ≤ c.toInt ∧ c.toInt ≤ 8) ∨ (11 ≤ c.toInt ∧ c.toInt ≤ 12) ∨ (14 ≤ c.toInt ∧ c.toInt ≤ 31) ∨ (55296 ≤ c.toInt ∧ c.toInt ≤ 57343) ∨ (65534 ≤ c.toInt ∧ c.toInt ≤ 65535) ∨ (1114112 ≤ c.toInt ∧ c.toInt ≤ 2147483647)) by omega)]; rfl
  · rw [if_neg q, if_pos (show (-2147483648 ≤ c.toInt ∧ c.toInt ≤ 8) ∨ (11 ≤ c.toInt ∧ c.toInt ≤ 12) ∨ (14 ≤ c.toInt ∧ c.toInt ≤ 31) ∨ (55296 ≤ c.toInt ∧ c.toInt ≤ 57343) ∨ (65534 ≤ c.toInt ∧ c.toInt ≤ 65535) ∨ (1114112 ≤ c.toInt ∧ c.toInt ≤ 2147483647) by omega)]; rfl
theorem brc1710_193 (c4 : Int32) : (vc1710_176 c4) = (vc1710_193 c4) := own_eq c4
theorem ib0_165b (p1 : Int32) (hb138 : ¬ ((p1 &&& (1 : Int32)) = (0 : Int32))) : InB (v0_153 p1) 23 := by
  have h := ushr_nat p1 1 (k := 1) (by decide) (by decide) (by decide)
  have r := rem32 (x := XT.ushr p1 1) (y := 23) (by omega) (by decide)
  exact inb_of_toInt r.1 r.2
set_option maxRecDepth 65536 in
set_option maxHeartbeats 40000000 in
theorem j0c171 {p : Program} {l : Launch} {e : Env} {s : State} {m : MethodId} {args : Array Value} {below : List Frame} {meth : Method} {c : Code} {T0 : State} {locs : List Loc} {Z : State} {a0 : Array Value} {h0 : Heap} {n0 : Nat}
    (X0 : Stand p l e room_1 s m args below meth c T0 locs 1 23) (hx : p.tables.exec = Jvm.exec) (hZ : Z.Warmed39 s.vm) (hw : ∀ d ∈ tables_1, d.before a0 Z = true) (hby : c.code = code) (hml : c.maxLocals = 7) (hown : s.vm.findClass "com/example/shapeloom/shapeloom/rdf/XmlCharactersIsCharPinLaw" = some m.cls) (hnm : meth.name = "law") (e0 : T0.heap = h0) (N0 : Fr n0 locs) (Z0 : n0 ≤ h0.size) (p0 : Int32) (p1 : Int32) (p2 : Int32) (c4 : Int32) (s5 : Slot) (s6 : Slot) (b1 : Addr) (hs5 : s5 = .unset ∨ ∃ w : Value, s5 = .val w ∧ w.category = 1) (hs6 : s6 = .unset ∨ ∃ w : Value, s6 = .val w ∧ w.category = 1) (A_b1 : Ary Z h0 b1 .int 23 (fun i => .int ((G0_133) i))) (g_b1 : n0 ≤ b1) :
    OwnFin X0 (some .boolean) (LQ n0) room_1.cells room_1.slots (mkF m 171 #[.val (.int p0), .val (.int p1), .val (.int p2), .val (.ref b1), .val (.int c4), s5, s6] []) := by
  refine OwnFin.step (g' := (mkF m 173 #[.val (.int p0), .val (.int p1), .val (.int p2), .val (.ref b1), .val (.int c4), s5, s6] [(.int c4)])) X0 (fun t k => XS.iload X0.here hx rfl (hb hby at_171) rfl k) ?_
  obtain ⟨_, T1001, L1001, X1001, ⟨rfl, f1001, N1001q⟩, st1001⟩ := own_callS X0 hx hZ (y := (⟨"com/example/shapeloom/shapeloom/rdf/XmlCharacters", "isChar", "(I)Z"⟩ : MethodName)) (W := 0) (argsL := [(.int c4)]) (rest := []) hown (hw _ (List.mem_of_getElem? (i := 13) rfl)) (hw _ (List.mem_of_getElem? (i := 14) rfl)) (hw _ (List.mem_of_getElem? (i := 15) rfl)) (hw _ (List.mem_of_getElem? (i := 16) rfl)) (by decide) (rm1 l Z a0 hw [] c4 h0 n0 Z0) (by decide) (by decide) (by decide) (by decide) e0 (g := (mkF m 173 #[.val (.int p0), .val (.int p1), .val (.int p2), .val (.ref b1), .val (.int c4), s5, s6] [(.int c4)])) rfl (by rw [hml]; rfl) pd_0 rfl rfl (by show 2 * 0 + _ ≤ _; exact Nat.le_of_eq rfl) (hb hby at_173)
  have N1001 := Fr.app N0 N1001q
  refine OwnFin.step (g' := (mkF m 176 #[.val (.int p0), .val (.int p1), .val (.int p2), .val (.ref b1), .val (.int c4), s5, s6] [(.int (r1 c4))])) X1001 (fun t k => st1001 _ k) ?_
  refine OwnFin.step (g' := (mkF m 178 #[.val (.int p0), .val (.int p1), .val (.int p2), .val (.ref b1), .val (.int c4), .val (.int (vc1710_176 c4)), s6] [])) X1001 (fun t k => XS.istoreS X1001.here hx rfl (hb hby at_176) rfl rfl hs5 k) ?_
  refine OwnFin.step (g' := (mkF m 180 #[.val (.int p0), .val (.int p1), .val (.int p2), .val (.ref b1), .val (.int c4), .val (.int (vc1710_176 c4)), s6] [(.int (vc1710_176 c4))])) X1001 (fun t k => XS.iload X1001.here hx rfl (hb hby at_178) rfl k) ?_
  refine OwnFin.step (g' := (mkF m 182 #[.val (.int p0), .val (.int p1), .val (.int p2), .val (.ref b1), .val (.int c4), .val (.int (vc1710_176 c4)), s6] [(.int c4), (.int (vc1710_176 c4))])) X1001 (fun t k => XS.iload X1001.here hx rfl (hb hby at_180) rfl k) ?_
  obtain ⟨_, T1002, L1002, X1002, ⟨rfl, f1002, N1002q⟩, st1002⟩ := own_callS X1001 hx hZ (y := (⟨"com/example/shapeloom/shapeloom/rdf/XmlCharactersIsCharPinLaw", "forbidden", "(I)Z"⟩ : MethodName)) (W := 1) (argsL := [(.int c4)]) (rest := [(.int (vc1710_176 c4))]) hown (hw _ (List.mem_of_getElem? (i := 19) rfl)) (hw _ (List.mem_of_getElem? (i := 20) rfl)) (hw _ (List.mem_of_getElem? (i := 21) rfl)) (hw _ (List.mem_of_getElem? (i := 22) rfl)) (by decide) (rm2 l Z a0 hw [] c4 h0 n0 Z0) (by decide) (by decide) (by decide) (by decide) f1001 (g := (mkF m 182 #[.val (.int p0), .val (.int p1), .val (.int p2), .val (.ref b1), .val (.int c4), .val (.int (vc1710_176 c4)), s6] [(.int c4), (.int (vc1710_176 c4))])) rfl (by rw [hml]; rfl) pd_0 rfl rfl (by show 2 * 0 + _ ≤ _; exact Nat.le_of_eq rfl) (hb hby at_182)
  have N1002 := Fr.app N1001 N1002q
  refine OwnFin.step (g' := (mkF m 185 #[.val (.int p0), .val (.int p1), .val (.int p2), .val (.ref b1), .val (.int c4), .val (.int (vc1710_176 c4)), s6] [(.int (r2 c4)), (.int (vc1710_176 c4))])) X1002 (fun t k => st1002 _ k) ?_
  refine OwnFin.step (g' := (mkF m 193 #[.val (.int p0), .val (.int p1), .val (.int p2), .val (.ref b1), .val (.int c4), .val (.int (vc1710_176 c4)), s6] [(.int (vc1710_193 c4)), (.int (vc1710_176 c4))])) X1002 (fun t k => ?_) ?_
  · show Steps p.tables e below (T1002.setTop (mkF m 185 #[.val (.int p0), .val (.int p1), .val (.int p2), .val (.ref b1), .val (.int c4), .val (.int (vc1710_176 c4)), s6] [(.int (r2 c4)), (.int (vc1710_176 c4))])) t
    by_cases hc1003 : (r2 c4) = (0 : Int32)
    · skip
      refine XS.ifNo X1002.here hx rfl (hb hby at_185) rfl ((if0 _ _).trans (teq hc1003).2) ?_
      show Steps p.tables e below (T1002.setTop (mkF m 188 #[.val (.int p0), .val (.int p1), .val (.int p2), .val (.ref b1), .val (.int c4), .val (.int (vc1710_176 c4)), s6] [(.int (vc1710_176 c4))])) t
      refine XS.iconst X1002.here hx rfl (hb hby at_188) ?_
      show Steps p.tables e below (T1002.setTop (mkF m 189 #[.val (.int p0), .val (.int p1), .val (.int p2), .val (.ref b1), .val (.int c4), .val (.int (vc1710_176 c4)), s6] [(.int (1 : Int32)), (.int (vc1710_176 c4))])) t
      refine XS.goto X1002.here hx rfl (pc0 := 189) (pc' := 193) rfl (hb hby at_189) (by decide) (by decide) ?_
      show Steps p.tables e below (T1002.setTop (mkF m 193 #[.val (.int p0), .val (.int p1), .val (.int p2), .val (.ref b1), .val (.int c4), .val (.int (vc1710_176 c4)), s6] [(.int (1 : Int32)), (.int (vc1710_176 c4))])) t
      have q1004 : (vc1710_193 c4) = (1 : Int32) := by
        show (if (r2 c4) = (0 : Int32) then (1 : Int32) else (0 : Int32)) = (1 : Int32)
        simp only [if_pos hc1003]
      rw [q1004] at k
      exact k
    · skip
      refine XS.ifYes X1002.here hx rfl (pc0 := 185) (pc' := 192) rfl (hb hby at_185) rfl ((if0 _ _).trans (feq hc1003).2) (by decide) (by decide) ?_
      show Steps p.tables e below (T1002.setTop (mkF m 192 #[.val (.int p0), .val (.int p1), .val (.int p2), .val (.ref b1), .val (.int c4), .val (.int (vc1710_176 c4)), s6] [(.int (vc1710_176 c4))])) t
      refine XS.iconst X1002.here hx rfl (hb hby at_192) ?_
      show Steps p.tables e below (T1002.setTop (mkF m 193 #[.val (.int p0), .val (.int p1), .val (.int p2), .val (.ref b1), .val (.int c4), .val (.int (vc1710_176 c4)), s6] [(.int (0 : Int32)), (.int (vc1710_176 c4))])) t
      have q1005 : (vc1710_193 c4) = (0 : Int32) := by
        show (if (r2 c4) = (0 : Int32) then (1 : Int32) else (0 : Int32)) = (0 : Int32)
        simp only [if_neg hc1003]
      rw [q1005] at k
      exact k
  refine OwnFin.step (g' := (mkF m 196 #[.val (.int p0), .val (.int p1), .val (.int p2), .val (.ref b1), .val (.int c4), .val (.int (vc1710_176 c4)), s6] [])) X1002 (fun t k => XS.icmpNo X1002.here hx rfl (hb hby at_193) rfl (teq (brc1710_193 c4)).2 k) ?_
  refine OwnFin.step (g' := (mkF m 197 #[.val (.int p0), .val (.int p1), .val (.int p2), .val (.ref b1), .val (.int c4), .val (.int (vc1710_176 c4)), s6] [(.int (1 : Int32))])) X1002 (fun t k => XS.iconst X1002.here hx rfl (hb hby at_196) k) ?_
  refine OwnFin.step (g' := (mkF m 201 #[.val (.int p0), .val (.int p1), .val (.int p2), .val (.ref b1), .val (.int c4), .val (.int (vc1710_176 c4)), s6] [(.int (1 : Int32))])) X1002 (fun t k => XS.goto X1002.here hx rfl (pc0 := 197) (pc' := 201) rfl (hb hby at_197) (by decide) (by decide) k) ?_
  refine OwnFin.retNar X1002 (by simp) (hb hby at_201) (by decide) (by decide) ?_
  exact ⟨rfl, N1002⟩
set_option maxRecDepth 65536 in
set_option maxHeartbeats 40000000 in
theorem j0 {p : Program} {l : Launch} {e : Env} {s : State} {m : MethodId} {args : Array Value} {below : List Frame} {meth : Method} {c : Code} {T0 : State} {locs : List Loc} {Z : State} {a0 : Array Value} {h0 : Heap} {n0 : Nat}
    (X0 : Stand p l e room_1 s m args below meth c T0 locs 0 0) (hx : p.tables.exec = Jvm.exec) (hZ : Z.Warmed39 s.vm) (hw : ∀ d ∈ tables_1, d.before a0 Z = true) (hby : c.code = code) (hml : c.maxLocals = 7) (hown : s.vm.findClass "com/example/shapeloom/shapeloom/rdf/XmlCharactersIsCharPinLaw" = some m.cls) (hnm : meth.name = "law") (e0 : T0.heap = h0) (N0 : Fr n0 locs) (Z0 : n0 ≤ h0.size) (p0 : Int32) (p1 : Int32) (p2 : Int32) :
    OwnFin X0 (some .boolean) (LQ n0) room_1.cells room_1.slots (mkF m 0 #[.val (.int p0), .val (.int p1), .val (.int p2), .unset, .unset, .unset, .unset] []) := by
  refine OwnFin.step (g' := (mkF m 2 #[.val (.int p0), .val (.int p1), .val (.int p2), .unset, .unset, .unset, .unset] [(.int (23 : Int32))])) X0 (fun t k => XS.bipush X0.here hx rfl (hb hby at_0) k) ?_
  obtain ⟨T1, h1, b1, X1, e1, y1, K1, A1, st1⟩ := own_new X0 hx hZ (hw _ (List.mem_of_getElem? (i := 0) rfl)) e0 (g := (mkF m 2 #[.val (.int p0), .val (.int p1), .val (.int p2), .unset, .unset, .unset, .unset] [(.int (23 : Int32))])) rfl (hb hby at_2) rfl (by decide) (cap := 23) (by decide) (by decide) (by decide) (by decide)
  have B1 : Ary Z h1 b1 .int 23 (fun i => .int ((fun _ => (0 : Int32)) i)) := A1
  have g_b1 : n0 ≤ b1 := by rw [y1]; exact Z0
  have Z1 : n0 ≤ h1.size := Nat.le_trans Z0 K1.1
  refine OwnFin.step (g' := (mkF m 4 #[.val (.int p0), .val (.int p1), .val (.int p2), .unset, .unset, .unset, .unset] [(.ref b1)])) X1 (fun t k => st1 _ k) ?_
  refine OwnFin.step (g' := (mkF m 5 #[.val (.int p0), .val (.int p1), .val (.int p2), .unset, .unset, .unset, .unset] [(.ref b1), (.ref b1)])) X1 (fun t k => XS.dup X1.here hx rfl (hb hby at_4) rfl rfl k) ?_
  refine OwnFin.step (g' := (mkF m 6 #[.val (.int p0), .val (.int p1), .val (.int p2), .unset, .unset, .unset, .unset] [(.int (0 : Int32)), (.ref b1), (.ref b1)])) X1 (fun t k => XS.iconst X1.here hx rfl (hb hby at_5) k) ?_
  refine OwnFin.step (g' := (mkF m 8 #[.val (.int p0), .val (.int p1), .val (.int p2), .unset, .unset, .unset, .unset] [(.int (-2147483648 : Int32)), (.int (0 : Int32)), (.ref b1), (.ref b1)])) X1 (fun t k => X1.ldcInt hx hown (mvT hZ (hw _ (List.mem_of_getElem? (i := 1) rfl))) (g := (mkF m 6 #[.val (.int p0), .val (.int p1), .val (.int p2), .unset, .unset, .unset, .unset] [(.int (0 : Int32)), (.ref b1), (.ref b1)])) rfl (hb hby at_6) _ k) ?_
  obtain ⟨T2, h2, L2, X2, e2, N2, K2, A2, st2⟩ := own_stI X1 hx hZ e1 N0 (G := (fun _ => (0 : Int32))) B1 g_b1 (j := (0 : Int32)) (x := (-2147483648 : Int32)) (by decide) (g := (mkF m 8 #[.val (.int p0), .val (.int p1), .val (.int p2), .unset, .unset, .unset, .unset] [(.int (-2147483648 : Int32)), (.int (0 : Int32)), (.ref b1), (.ref b1)])) rfl rfl (hb hby at_8)
  have B2 : Ary Z h2 b1 .int 23 (fun i => .int ((G0_8) i)) := A2
  have Z2 : n0 ≤ h2.size := Nat.le_trans Z1 K2.1
  refine OwnFin.step (g' := (mkF m 9 #[.val (.int p0), .val (.int p1), .val (.int p2), .unset, .unset, .unset, .unset] [(.ref b1)])) X2 (fun t k => st2 _ k) ?_
  refine OwnFin.step (g' := (mkF m 10 #[.val (.int p0), .val (.int p1), .val (.int p2), .unset, .unset, .unset, .unset] [(.ref b1), (.ref b1)])) X2 (fun t k => XS.dup X2.here hx rfl (hb hby at_9) rfl rfl k) ?_
  refine OwnFin.step (g' := (mkF m 11 #[.val (.int p0), .val (.int p1), .val (.int p2), .unset, .unset, .unset, .unset] [(.int (1 : Int32)), (.ref b1), (.ref b1)])) X2 (fun t k => XS.iconst X2.here hx rfl (hb hby at_10) k) ?_
  refine OwnFin.step (g' := (mkF m 12 #[.val (.int p0), .val (.int p1), .val (.int p2), .unset, .unset, .unset, .unset] [(.int (-1 : Int32)), (.int (1 : Int32)), (.ref b1), (.ref b1)])) X2 (fun t k => XS.iconst X2.here hx rfl (hb hby at_11) k) ?_
  obtain ⟨T3, h3, L3, X3, e3, N3, K3, A3, st3⟩ := own_stI X2 hx hZ e2 N2 (G := (G0_8)) B2 g_b1 (j := (1 : Int32)) (x := (-1 : Int32)) (by decide) (g := (mkF m 12 #[.val (.int p0), .val (.int p1), .val (.int p2), .unset, .unset, .unset, .unset] [(.int (-1 : Int32)), (.int (1 : Int32)), (.ref b1), (.ref b1)])) rfl rfl (hb hby at_12)
  have B3 : Ary Z h3 b1 .int 23 (fun i => .int ((G0_12) i)) := A3
  have Z3 : n0 ≤ h3.size := Nat.le_trans Z2 K3.1
  refine OwnFin.step (g' := (mkF m 13 #[.val (.int p0), .val (.int p1), .val (.int p2), .unset, .unset, .unset, .unset] [(.ref b1)])) X3 (fun t k => st3 _ k) ?_
  refine OwnFin.step (g' := (mkF m 14 #[.val (.int p0), .val (.int p1), .val (.int p2), .unset, .unset, .unset, .unset] [(.ref b1), (.ref b1)])) X3 (fun t k => XS.dup X3.here hx rfl (hb hby at_13) rfl rfl k) ?_
  refine OwnFin.step (g' := (mkF m 15 #[.val (.int p0), .val (.int p1), .val (.int p2), .unset, .unset, .unset, .unset] [(.int (2 : Int32)), (.ref b1), (.ref b1)])) X3 (fun t k => XS.iconst X3.here hx rfl (hb hby at_14) k) ?_
  refine OwnFin.step (g' := (mkF m 16 #[.val (.int p0), .val (.int p1), .val (.int p2), .unset, .unset, .unset, .unset] [(.int (0 : Int32)), (.int (2 : Int32)), (.ref b1), (.ref b1)])) X3 (fun t k => XS.iconst X3.here hx rfl (hb hby at_15) k) ?_
  obtain ⟨T4, h4, L4, X4, e4, N4, K4, A4, st4⟩ := own_stI X3 hx hZ e3 N3 (G := (G0_12)) B3 g_b1 (j := (2 : Int32)) (x := (0 : Int32)) (by decide) (g := (mkF m 16 #[.val (.int p0), .val (.int p1), .val (.int p2), .unset, .unset, .unset, .unset] [(.int (0 : Int32)), (.int (2 : Int32)), (.ref b1), (.ref b1)])) rfl rfl (hb hby at_16)
  have B4 : Ary Z h4 b1 .int 23 (fun i => .int ((G0_16) i)) := A4
  have Z4 : n0 ≤ h4.size := Nat.le_trans Z3 K4.1
  refine OwnFin.step (g' := (mkF m 17 #[.val (.int p0), .val (.int p1), .val (.int p2), .unset, .unset, .unset, .unset] [(.ref b1)])) X4 (fun t k => st4 _ k) ?_
  refine OwnFin.step (g' := (mkF m 18 #[.val (.int p0), .val (.int p1), .val (.int p2), .unset, .unset, .unset, .unset] [(.ref b1), (.ref b1)])) X4 (fun t k => XS.dup X4.here hx rfl (hb hby at_17) rfl rfl k) ?_
  refine OwnFin.step (g' := (mkF m 19 #[.val (.int p0), .val (.int p1), .val (.int p2), .unset, .unset, .unset, .unset] [(.int (3 : Int32)), (.ref b1), (.ref b1)])) X4 (fun t k => XS.iconst X4.here hx rfl (hb hby at_18) k) ?_
  refine OwnFin.step (g' := (mkF m 21 #[.val (.int p0), .val (.int p1), .val (.int p2), .unset, .unset, .unset, .unset] [(.int (8 : Int32)), (.int (3 : Int32)), (.ref b1), (.ref b1)])) X4 (fun t k => XS.bipush X4.here hx rfl (hb hby at_19) k) ?_
  obtain ⟨T5, h5, L5, X5, e5, N5, K5, A5, st5⟩ := own_stI X4 hx hZ e4 N4 (G := (G0_16)) B4 g_b1 (j := (3 : Int32)) (x := (8 : Int32)) (by decide) (g := (mkF m 21 #[.val (.int p0), .val (.int p1), .val (.int p2), .unset, .unset, .unset, .unset] [(.int (8 : Int32)), (.int (3 : Int32)), (.ref b1), (.ref b1)])) rfl rfl (hb hby at_21)
  have B5 : Ary Z h5 b1 .int 23 (fun i => .int ((G0_21) i)) := A5
  have Z5 : n0 ≤ h5.size := Nat.le_trans Z4 K5.1
  refine OwnFin.step (g' := (mkF m 22 #[.val (.int p0), .val (.int p1), .val (.int p2), .unset, .unset, .unset, .unset] [(.ref b1)])) X5 (fun t k => st5 _ k) ?_
  refine OwnFin.step (g' := (mkF m 23 #[.val (.int p0), .val (.int p1), .val (.int p2), .unset, .unset, .unset, .unset] [(.ref b1), (.ref b1)])) X5 (fun t k => XS.dup X5.here hx rfl (hb hby at_22) rfl rfl k) ?_
  refine OwnFin.step (g' := (mkF m 24 #[.val (.int p0), .val (.int p1), .val (.int p2), .unset, .unset, .unset, .unset] [(.int (4 : Int32)), (.ref b1), (.ref b1)])) X5 (fun t k => XS.iconst X5.here hx rfl (hb hby at_23) k) ?_
  refine OwnFin.step (g' := (mkF m 26 #[.val (.int p0), .val (.int p1), .val (.int p2), .unset, .unset, .unset, .unset] [(.int (9 : Int32)), (.int (4 : Int32)), (.ref b1), (.ref b1)])) X5 (fun t k => XS.bipush X5.here hx rfl (hb hby at_24) k) ?_
  obtain ⟨T6, h6, L6, X6, e6, N6, K6, A6, st6⟩ := own_stI X5 hx hZ e5 N5 (G := (G0_21)) B5 g_b1 (j := (4 : Int32)) (x := (9 : Int32)) (by decide) (g := (mkF m 26 #[.val (.int p0), .val (.int p1), .val (.int p2), .unset, .unset, .unset, .unset] [(.int (9 : Int32)), (.int (4 : Int32)), (.ref b1), (.ref b1)])) rfl rfl (hb hby at_26)
  have B6 : Ary Z h6 b1 .int 23 (fun i => .int ((G0_26) i)) := A6
  have Z6 : n0 ≤ h6.size := Nat.le_trans Z5 K6.1
  refine OwnFin.step (g' := (mkF m 27 #[.val (.int p0), .val (.int p1), .val (.int p2), .unset, .unset, .unset, .unset] [(.ref b1)])) X6 (fun t k => st6 _ k) ?_
  refine OwnFin.step (g' := (mkF m 28 #[.val (.int p0), .val (.int p1), .val (.int p2), .unset, .unset, .unset, .unset] [(.ref b1), (.ref b1)])) X6 (fun t k => XS.dup X6.here hx rfl (hb hby at_27) rfl rfl k) ?_
  refine OwnFin.step (g' := (mkF m 29 #[.val (.int p0), .val (.int p1), .val (.int p2), .unset, .unset, .unset, .unset] [(.int (5 : Int32)), (.ref b1), (.ref b1)])) X6 (fun t k => XS.iconst X6.here hx rfl (hb hby at_28) k) ?_
  refine OwnFin.step (g' := (mkF m 31 #[.val (.int p0), .val (.int p1), .val (.int p2), .unset, .unset, .unset, .unset] [(.int (10 : Int32)), (.int (5 : Int32)), (.ref b1), (.ref b1)])) X6 (fun t k => XS.bipush X6.here hx rfl (hb hby at_29) k) ?_
  obtain ⟨T7, h7, L7, X7, e7, N7, K7, A7, st7⟩ := own_stI X6 hx hZ e6 N6 (G := (G0_26)) B6 g_b1 (j := (5 : Int32)) (x := (10 : Int32)) (by decide) (g := (mkF m 31 #[.val (.int p0), .val (.int p1), .val (.int p2), .unset, .unset, .unset, .unset] [(.int (10 : Int32)), (.int (5 : Int32)), (.ref b1), (.ref b1)])) rfl rfl (hb hby at_31)
  have B7 : Ary Z h7 b1 .int 23 (fun i => .int ((G0_31) i)) := A7
  have Z7 : n0 ≤ h7.size := Nat.le_trans Z6 K7.1
  refine OwnFin.step (g' := (mkF m 32 #[.val (.int p0), .val (.int p1), .val (.int p2), .unset, .unset, .unset, .unset] [(.ref b1)])) X7 (fun t k => st7 _ k) ?_
  refine OwnFin.step (g' := (mkF m 33 #[.val (.int p0), .val (.int p1), .val (.int p2), .unset, .unset, .unset, .unset] [(.ref b1), (.ref b1)])) X7 (fun t k => XS.dup X7.here hx rfl (hb hby at_32) rfl rfl k) ?_
  refine OwnFin.step (g' := (mkF m 35 #[.val (.int p0), .val (.int p1), .val (.int p2), .unset, .unset, .unset, .unset] [(.int (6 : Int32)), (.ref b1), (.ref b1)])) X7 (fun t k => XS.bipush X7.here hx rfl (hb hby at_33) k) ?_
  refine OwnFin.step (g' := (mkF m 37 #[.val (.int p0), .val (.int p1), .val (.int p2), .unset, .unset, .unset, .unset] [(.int (11 : Int32)), (.int (6 : Int32)), (.ref b1), (.ref b1)])) X7 (fun t k => XS.bipush X7.here hx rfl (hb hby at_35) k) ?_
  obtain ⟨T8, h8, L8, X8, e8, N8, K8, A8, st8⟩ := own_stI X7 hx hZ e7 N7 (G := (G0_31)) B7 g_b1 (j := (6 : Int32)) (x := (11 : Int32)) (by decide) (g := (mkF m 37 #[.val (.int p0), .val (.int p1), .val (.int p2), .unset, .unset, .unset, .unset] [(.int (11 : Int32)), (.int (6 : Int32)), (.ref b1), (.ref b1)])) rfl rfl (hb hby at_37)
  have B8 : Ary Z h8 b1 .int 23 (fun i => .int ((G0_37) i)) := A8
  have Z8 : n0 ≤ h8.size := Nat.le_trans Z7 K8.1
  refine OwnFin.step (g' := (mkF m 38 #[.val (.int p0), .val (.int p1), .val (.int p2), .unset, .unset, .unset, .unset] [(.ref b1)])) X8 (fun t k => st8 _ k) ?_
  refine OwnFin.step (g' := (mkF m 39 #[.val (.int p0), .val (.int p1), .val (.int p2), .unset, .unset, .unset, .unset] [(.ref b1), (.ref b1)])) X8 (fun t k => XS.dup X8.here hx rfl (hb hby at_38) rfl rfl k) ?_
  refine OwnFin.step (g' := (mkF m 41 #[.val (.int p0), .val (.int p1), .val (.int p2), .unset, .unset, .unset, .unset] [(.int (7 : Int32)), (.ref b1), (.ref b1)])) X8 (fun t k => XS.bipush X8.here hx rfl (hb hby at_39) k) ?_
  refine OwnFin.step (g' := (mkF m 43 #[.val (.int p0), .val (.int p1), .val (.int p2), .unset, .unset, .unset, .unset] [(.int (12 : Int32)), (.int (7 : Int32)), (.ref b1), (.ref b1)])) X8 (fun t k => XS.bipush X8.here hx rfl (hb hby at_41) k) ?_
  obtain ⟨T9, h9, L9, X9, e9, N9, K9, A9, st9⟩ := own_stI X8 hx hZ e8 N8 (G := (G0_37)) B8 g_b1 (j := (7 : Int32)) (x := (12 : Int32)) (by decide) (g := (mkF m 43 #[.val (.int p0), .val (.int p1), .val (.int p2), .unset, .unset, .unset, .unset] [(.int (12 : Int32)), (.int (7 : Int32)), (.ref b1), (.ref b1)])) rfl rfl (hb hby at_43)
  have B9 : Ary Z h9 b1 .int 23 (fun i => .int ((G0_43) i)) := A9
  have Z9 : n0 ≤ h9.size := Nat.le_trans Z8 K9.1
  refine OwnFin.step (g' := (mkF m 44 #[.val (.int p0), .val (.int p1), .val (.int p2), .unset, .unset, .unset, .unset] [(.ref b1)])) X9 (fun t k => st9 _ k) ?_
  refine OwnFin.step (g' := (mkF m 45 #[.val (.int p0), .val (.int p1), .val (.int p2), .unset, .unset, .unset, .unset] [(.ref b1), (.ref b1)])) X9 (fun t k => XS.dup X9.here hx rfl (hb hby at_44) rfl rfl k) ?_
  refine OwnFin.step (g' := (mkF m 47 #[.val (.int p0), .val (.int p1), .val (.int p2), .unset, .unset, .unset, .unset] [(.int (8 : Int32)), (.ref b1), (.ref b1)])) X9 (fun t k => XS.bipush X9.here hx rfl (hb hby at_45) k) ?_
  refine OwnFin.step (g' := (mkF m 49 #[.val (.int p0), .val (.int p1), .val (.int p2), .unset, .unset, .unset, .unset] [(.int (13 : Int32)), (.int (8 : Int32)), (.ref b1), (.ref b1)])) X9 (fun t k => XS.bipush X9.here hx rfl (hb hby at_47) k) ?_
  obtain ⟨T10, h10, L10, X10, e10, N10, K10, A10, st10⟩ := own_stI X9 hx hZ e9 N9 (G := (G0_43)) B9 g_b1 (j := (8 : Int32)) (x := (13 : Int32)) (by decide) (g := (mkF m 49 #[.val (.int p0), .val (.int p1), .val (.int p2), .unset, .unset, .unset, .unset] [(.int (13 : Int32)), (.int (8 : Int32)), (.ref b1), (.ref b1)])) rfl rfl (hb hby at_49)
  have B10 : Ary Z h10 b1 .int 23 (fun i => .int ((G0_49) i)) := A10
  have Z10 : n0 ≤ h10.size := Nat.le_trans Z9 K10.1
  refine OwnFin.step (g' := (mkF m 50 #[.val (.int p0), .val (.int p1), .val (.int p2), .unset, .unset, .unset, .unset] [(.ref b1)])) X10 (fun t k => st10 _ k) ?_
  refine OwnFin.step (g' := (mkF m 51 #[.val (.int p0), .val (.int p1), .val (.int p2), .unset, .unset, .unset, .unset] [(.ref b1), (.ref b1)])) X10 (fun t k => XS.dup X10.here hx rfl (hb hby at_50) rfl rfl k) ?_
  refine OwnFin.step (g' := (mkF m 53 #[.val (.int p0), .val (.int p1), .val (.int p2), .unset, .unset, .unset, .unset] [(.int (9 : Int32)), (.ref b1), (.ref b1)])) X10 (fun t k => XS.bipush X10.here hx rfl (hb hby at_51) k) ?_
  refine OwnFin.step (g' := (mkF m 55 #[.val (.int p0), .val (.int p1), .val (.int p2), .unset, .unset, .unset, .unset] [(.int (14 : Int32)), (.int (9 : Int32)), (.ref b1), (.ref b1)])) X10 (fun t k => XS.bipush X10.here hx rfl (hb hby at_53) k) ?_
  obtain ⟨T11, h11, L11, X11, e11, N11, K11, A11, st11⟩ := own_stI X10 hx hZ e10 N10 (G := (G0_49)) B10 g_b1 (j := (9 : Int32)) (x := (14 : Int32)) (by decide) (g := (mkF m 55 #[.val (.int p0), .val (.int p1), .val (.int p2), .unset, .unset, .unset, .unset] [(.int (14 : Int32)), (.int (9 : Int32)), (.ref b1), (.ref b1)])) rfl rfl (hb hby at_55)
  have B11 : Ary Z h11 b1 .int 23 (fun i => .int ((G0_55) i)) := A11
  have Z11 : n0 ≤ h11.size := Nat.le_trans Z10 K11.1
  refine OwnFin.step (g' := (mkF m 56 #[.val (.int p0), .val (.int p1), .val (.int p2), .unset, .unset, .unset, .unset] [(.ref b1)])) X11 (fun t k => st11 _ k) ?_
  refine OwnFin.step (g' := (mkF m 57 #[.val (.int p0), .val (.int p1), .val (.int p2), .unset, .unset, .unset, .unset] [(.ref b1), (.ref b1)])) X11 (fun t k => XS.dup X11.here hx rfl (hb hby at_56) rfl rfl k) ?_
  refine OwnFin.step (g' := (mkF m 59 #[.val (.int p0), .val (.int p1), .val (.int p2), .unset, .unset, .unset, .unset] [(.int (10 : Int32)), (.ref b1), (.ref b1)])) X11 (fun t k => XS.bipush X11.here hx rfl (hb hby at_57) k) ?_
  refine OwnFin.step (g' := (mkF m 61 #[.val (.int p0), .val (.int p1), .val (.int p2), .unset, .unset, .unset, .unset] [(.int (31 : Int32)), (.int (10 : Int32)), (.ref b1), (.ref b1)])) X11 (fun t k => XS.bipush X11.here hx rfl (hb hby at_59) k) ?_
  obtain ⟨T12, h12, L12, X12, e12, N12, K12, A12, st12⟩ := own_stI X11 hx hZ e11 N11 (G := (G0_55)) B11 g_b1 (j := (10 : Int32)) (x := (31 : Int32)) (by decide) (g := (mkF m 61 #[.val (.int p0), .val (.int p1), .val (.int p2), .unset, .unset, .unset, .unset] [(.int (31 : Int32)), (.int (10 : Int32)), (.ref b1), (.ref b1)])) rfl rfl (hb hby at_61)
  have B12 : Ary Z h12 b1 .int 23 (fun i => .int ((G0_61) i)) := A12
  have Z12 : n0 ≤ h12.size := Nat.le_trans Z11 K12.1
  refine OwnFin.step (g' := (mkF m 62 #[.val (.int p0), .val (.int p1), .val (.int p2), .unset, .unset, .unset, .unset] [(.ref b1)])) X12 (fun t k => st12 _ k) ?_
  refine OwnFin.step (g' := (mkF m 63 #[.val (.int p0), .val (.int p1), .val (.int p2), .unset, .unset, .unset, .unset] [(.ref b1), (.ref b1)])) X12 (fun t k => XS.dup X12.here hx rfl (hb hby at_62) rfl rfl k) ?_
  refine OwnFin.step (g' := (mkF m 65 #[.val (.int p0), .val (.int p1), .val (.int p2), .unset, .unset, .unset, .unset] [(.int (11 : Int32)), (.ref b1), (.ref b1)])) X12 (fun t k => XS.bipush X12.here hx rfl (hb hby at_63) k) ?_
  refine OwnFin.step (g' := (mkF m 67 #[.val (.int p0), .val (.int p1), .val (.int p2), .unset, .unset, .unset, .unset] [(.int (32 : Int32)), (.int (11 : Int32)), (.ref b1), (.ref b1)])) X12 (fun t k => XS.bipush X12.here hx rfl (hb hby at_65) k) ?_
  obtain ⟨T13, h13, L13, X13, e13, N13, K13, A13, st13⟩ := own_stI X12 hx hZ e12 N12 (G := (G0_61)) B12 g_b1 (j := (11 : Int32)) (x := (32 : Int32)) (by decide) (g := (mkF m 67 #[.val (.int p0), .val (.int p1), .val (.int p2), .unset, .unset, .unset, .unset] [(.int (32 : Int32)), (.int (11 : Int32)), (.ref b1), (.ref b1)])) rfl rfl (hb hby at_67)
  have B13 : Ary Z h13 b1 .int 23 (fun i => .int ((G0_67) i)) := A13
  have Z13 : n0 ≤ h13.size := Nat.le_trans Z12 K13.1
  refine OwnFin.step (g' := (mkF m 68 #[.val (.int p0), .val (.int p1), .val (.int p2), .unset, .unset, .unset, .unset] [(.ref b1)])) X13 (fun t k => st13 _ k) ?_
  refine OwnFin.step (g' := (mkF m 69 #[.val (.int p0), .val (.int p1), .val (.int p2), .unset, .unset, .unset, .unset] [(.ref b1), (.ref b1)])) X13 (fun t k => XS.dup X13.here hx rfl (hb hby at_68) rfl rfl k) ?_
  refine OwnFin.step (g' := (mkF m 71 #[.val (.int p0), .val (.int p1), .val (.int p2), .unset, .unset, .unset, .unset] [(.int (12 : Int32)), (.ref b1), (.ref b1)])) X13 (fun t k => XS.bipush X13.here hx rfl (hb hby at_69) k) ?_
  refine OwnFin.step (g' := (mkF m 73 #[.val (.int p0), .val (.int p1), .val (.int p2), .unset, .unset, .unset, .unset] [(.int (55295 : Int32)), (.int (12 : Int32)), (.ref b1), (.ref b1)])) X13 (fun t k => X13.ldcInt hx hown (mvT hZ (hw _ (List.mem_of_getElem? (i := 2) rfl))) (g := (mkF m 71 #[.val (.int p0), .val (.int p1), .val (.int p2), .unset, .unset, .unset, .unset] [(.int (12 : Int32)), (.ref b1), (.ref b1)])) rfl (hb hby at_71) _ k) ?_
  obtain ⟨T14, h14, L14, X14, e14, N14, K14, A14, st14⟩ := own_stI X13 hx hZ e13 N13 (G := (G0_67)) B13 g_b1 (j := (12 : Int32)) (x := (55295 : Int32)) (by decide) (g := (mkF m 73 #[.val (.int p0), .val (.int p1), .val (.int p2), .unset, .unset, .unset, .unset] [(.int (55295 : Int32)), (.int (12 : Int32)), (.ref b1), (.ref b1)])) rfl rfl (hb hby at_73)
  have B14 : Ary Z h14 b1 .int 23 (fun i => .int ((G0_73) i)) := A14
  have Z14 : n0 ≤ h14.size := Nat.le_trans Z13 K14.1
  refine OwnFin.step (g' := (mkF m 74 #[.val (.int p0), .val (.int p1), .val (.int p2), .unset, .unset, .unset, .unset] [(.ref b1)])) X14 (fun t k => st14 _ k) ?_
  refine OwnFin.step (g' := (mkF m 75 #[.val (.int p0), .val (.int p1), .val (.int p2), .unset, .unset, .unset, .unset] [(.ref b1), (.ref b1)])) X14 (fun t k => XS.dup X14.here hx rfl (hb hby at_74) rfl rfl k) ?_
  refine OwnFin.step (g' := (mkF m 77 #[.val (.int p0), .val (.int p1), .val (.int p2), .unset, .unset, .unset, .unset] [(.int (13 : Int32)), (.ref b1), (.ref b1)])) X14 (fun t k => XS.bipush X14.here hx rfl (hb hby at_75) k) ?_
  refine OwnFin.step (g' := (mkF m 79 #[.val (.int p0), .val (.int p1), .val (.int p2), .unset, .unset, .unset, .unset] [(.int (55296 : Int32)), (.int (13 : Int32)), (.ref b1), (.ref b1)])) X14 (fun t k => X14.ldcInt hx hown (mvT hZ (hw _ (List.mem_of_getElem? (i := 3) rfl))) (g := (mkF m 77 #[.val (.int p0), .val (.int p1), .val (.int p2), .unset, .unset, .unset, .unset] [(.int (13 : Int32)), (.ref b1), (.ref b1)])) rfl (hb hby at_77) _ k) ?_
  obtain ⟨T15, h15, L15, X15, e15, N15, K15, A15, st15⟩ := own_stI X14 hx hZ e14 N14 (G := (G0_73)) B14 g_b1 (j := (13 : Int32)) (x := (55296 : Int32)) (by decide) (g := (mkF m 79 #[.val (.int p0), .val (.int p1), .val (.int p2), .unset, .unset, .unset, .unset] [(.int (55296 : Int32)), (.int (13 : Int32)), (.ref b1), (.ref b1)])) rfl rfl (hb hby at_79)
  have B15 : Ary Z h15 b1 .int 23 (fun i => .int ((G0_79) i)) := A15
  have Z15 : n0 ≤ h15.size := Nat.le_trans Z14 K15.1
  refine OwnFin.step (g' := (mkF m 80 #[.val (.int p0), .val (.int p1), .val (.int p2), .unset, .unset, .unset, .unset] [(.ref b1)])) X15 (fun t k => st15 _ k) ?_
  refine OwnFin.step (g' := (mkF m 81 #[.val (.int p0), .val (.int p1), .val (.int p2), .unset, .unset, .unset, .unset] [(.ref b1), (.ref b1)])) X15 (fun t k => XS.dup X15.here hx rfl (hb hby at_80) rfl rfl k) ?_
  refine OwnFin.step (g' := (mkF m 83 #[.val (.int p0), .val (.int p1), .val (.int p2), .unset, .unset, .unset, .unset] [(.int (14 : Int32)), (.ref b1), (.ref b1)])) X15 (fun t k => XS.bipush X15.here hx rfl (hb hby at_81) k) ?_
  refine OwnFin.step (g' := (mkF m 85 #[.val (.int p0), .val (.int p1), .val (.int p2), .unset, .unset, .unset, .unset] [(.int (57343 : Int32)), (.int (14 : Int32)), (.ref b1), (.ref b1)])) X15 (fun t k => X15.ldcInt hx hown (mvT hZ (hw _ (List.mem_of_getElem? (i := 4) rfl))) (g := (mkF m 83 #[.val (.int p0), .val (.int p1), .val (.int p2), .unset, .unset, .unset, .unset] [(.int (14 : Int32)), (.ref b1), (.ref b1)])) rfl (hb hby at_83) _ k) ?_
  obtain ⟨T16, h16, L16, X16, e16, N16, K16, A16, st16⟩ := own_stI X15 hx hZ e15 N15 (G := (G0_79)) B15 g_b1 (j := (14 : Int32)) (x := (57343 : Int32)) (by decide) (g := (mkF m 85 #[.val (.int p0), .val (.int p1), .val (.int p2), .unset, .unset, .unset, .unset] [(.int (57343 : Int32)), (.int (14 : Int32)), (.ref b1), (.ref b1)])) rfl rfl (hb hby at_85)
  have B16 : Ary Z h16 b1 .int 23 (fun i => .int ((G0_85) i)) := A16
  have Z16 : n0 ≤ h16.size := Nat.le_trans Z15 K16.1
  refine OwnFin.step (g' := (mkF m 86 #[.val (.int p0), .val (.int p1), .val (.int p2), .unset, .unset, .unset, .unset] [(.ref b1)])) X16 (fun t k => st16 _ k) ?_
  refine OwnFin.step (g' := (mkF m 87 #[.val (.int p0), .val (.int p1), .val (.int p2), .unset, .unset, .unset, .unset] [(.ref b1), (.ref b1)])) X16 (fun t k => XS.dup X16.here hx rfl (hb hby at_86) rfl rfl k) ?_
  refine OwnFin.step (g' := (mkF m 89 #[.val (.int p0), .val (.int p1), .val (.int p2), .unset, .unset, .unset, .unset] [(.int (15 : Int32)), (.ref b1), (.ref b1)])) X16 (fun t k => XS.bipush X16.here hx rfl (hb hby at_87) k) ?_
  refine OwnFin.step (g' := (mkF m 91 #[.val (.int p0), .val (.int p1), .val (.int p2), .unset, .unset, .unset, .unset] [(.int (57344 : Int32)), (.int (15 : Int32)), (.ref b1), (.ref b1)])) X16 (fun t k => X16.ldcInt hx hown (mvT hZ (hw _ (List.mem_of_getElem? (i := 5) rfl))) (g := (mkF m 89 #[.val (.int p0), .val (.int p1), .val (.int p2), .unset, .unset, .unset, .unset] [(.int (15 : Int32)), (.ref b1), (.ref b1)])) rfl (hb hby at_89) _ k) ?_
  obtain ⟨T17, h17, L17, X17, e17, N17, K17, A17, st17⟩ := own_stI X16 hx hZ e16 N16 (G := (G0_85)) B16 g_b1 (j := (15 : Int32)) (x := (57344 : Int32)) (by decide) (g := (mkF m 91 #[.val (.int p0), .val (.int p1), .val (.int p2), .unset, .unset, .unset, .unset] [(.int (57344 : Int32)), (.int (15 : Int32)), (.ref b1), (.ref b1)])) rfl rfl (hb hby at_91)
  have B17 : Ary Z h17 b1 .int 23 (fun i => .int ((G0_91) i)) := A17
  have Z17 : n0 ≤ h17.size := Nat.le_trans Z16 K17.1
  refine OwnFin.step (g' := (mkF m 92 #[.val (.int p0), .val (.int p1), .val (.int p2), .unset, .unset, .unset, .unset] [(.ref b1)])) X17 (fun t k => st17 _ k) ?_
  refine OwnFin.step (g' := (mkF m 93 #[.val (.int p0), .val (.int p1), .val (.int p2), .unset, .unset, .unset, .unset] [(.ref b1), (.ref b1)])) X17 (fun t k => XS.dup X17.here hx rfl (hb hby at_92) rfl rfl k) ?_
  refine OwnFin.step (g' := (mkF m 95 #[.val (.int p0), .val (.int p1), .val (.int p2), .unset, .unset, .unset, .unset] [(.int (16 : Int32)), (.ref b1), (.ref b1)])) X17 (fun t k => XS.bipush X17.here hx rfl (hb hby at_93) k) ?_
  refine OwnFin.step (g' := (mkF m 97 #[.val (.int p0), .val (.int p1), .val (.int p2), .unset, .unset, .unset, .unset] [(.int (65533 : Int32)), (.int (16 : Int32)), (.ref b1), (.ref b1)])) X17 (fun t k => X17.ldcInt hx hown (mvT hZ (hw _ (List.mem_of_getElem? (i := 6) rfl))) (g := (mkF m 95 #[.val (.int p0), .val (.int p1), .val (.int p2), .unset, .unset, .unset, .unset] [(.int (16 : Int32)), (.ref b1), (.ref b1)])) rfl (hb hby at_95) _ k) ?_
  obtain ⟨T18, h18, L18, X18, e18, N18, K18, A18, st18⟩ := own_stI X17 hx hZ e17 N17 (G := (G0_91)) B17 g_b1 (j := (16 : Int32)) (x := (65533 : Int32)) (by decide) (g := (mkF m 97 #[.val (.int p0), .val (.int p1), .val (.int p2), .unset, .unset, .unset, .unset] [(.int (65533 : Int32)), (.int (16 : Int32)), (.ref b1), (.ref b1)])) rfl rfl (hb hby at_97)
  have B18 : Ary Z h18 b1 .int 23 (fun i => .int ((G0_97) i)) := A18
  have Z18 : n0 ≤ h18.size := Nat.le_trans Z17 K18.1
  refine OwnFin.step (g' := (mkF m 98 #[.val (.int p0), .val (.int p1), .val (.int p2), .unset, .unset, .unset, .unset] [(.ref b1)])) X18 (fun t k => st18 _ k) ?_
  refine OwnFin.step (g' := (mkF m 99 #[.val (.int p0), .val (.int p1), .val (.int p2), .unset, .unset, .unset, .unset] [(.ref b1), (.ref b1)])) X18 (fun t k => XS.dup X18.here hx rfl (hb hby at_98) rfl rfl k) ?_
  refine OwnFin.step (g' := (mkF m 101 #[.val (.int p0), .val (.int p1), .val (.int p2), .unset, .unset, .unset, .unset] [(.int (17 : Int32)), (.ref b1), (.ref b1)])) X18 (fun t k => XS.bipush X18.here hx rfl (hb hby at_99) k) ?_
  refine OwnFin.step (g' := (mkF m 103 #[.val (.int p0), .val (.int p1), .val (.int p2), .unset, .unset, .unset, .unset] [(.int (65534 : Int32)), (.int (17 : Int32)), (.ref b1), (.ref b1)])) X18 (fun t k => X18.ldcInt hx hown (mvT hZ (hw _ (List.mem_of_getElem? (i := 7) rfl))) (g := (mkF m 101 #[.val (.int p0), .val (.int p1), .val (.int p2), .unset, .unset, .unset, .unset] [(.int (17 : Int32)), (.ref b1), (.ref b1)])) rfl (hb hby at_101) _ k) ?_
  obtain ⟨T19, h19, L19, X19, e19, N19, K19, A19, st19⟩ := own_stI X18 hx hZ e18 N18 (G := (G0_97)) B18 g_b1 (j := (17 : Int32)) (x := (65534 : Int32)) (by decide) (g := (mkF m 103 #[.val (.int p0), .val (.int p1), .val (.int p2), .unset, .unset, .unset, .unset] [(.int (65534 : Int32)), (.int (17 : Int32)), (.ref b1), (.ref b1)])) rfl rfl (hb hby at_103)
  have B19 : Ary Z h19 b1 .int 23 (fun i => .int ((G0_103) i)) := A19
  have Z19 : n0 ≤ h19.size := Nat.le_trans Z18 K19.1
  refine OwnFin.step (g' := (mkF m 104 #[.val (.int p0), .val (.int p1), .val (.int p2), .unset, .unset, .unset, .unset] [(.ref b1)])) X19 (fun t k => st19 _ k) ?_
  refine OwnFin.step (g' := (mkF m 105 #[.val (.int p0), .val (.int p1), .val (.int p2), .unset, .unset, .unset, .unset] [(.ref b1), (.ref b1)])) X19 (fun t k => XS.dup X19.here hx rfl (hb hby at_104) rfl rfl k) ?_
  refine OwnFin.step (g' := (mkF m 107 #[.val (.int p0), .val (.int p1), .val (.int p2), .unset, .unset, .unset, .unset] [(.int (18 : Int32)), (.ref b1), (.ref b1)])) X19 (fun t k => XS.bipush X19.here hx rfl (hb hby at_105) k) ?_
  refine OwnFin.step (g' := (mkF m 109 #[.val (.int p0), .val (.int p1), .val (.int p2), .unset, .unset, .unset, .unset] [(.int (65535 : Int32)), (.int (18 : Int32)), (.ref b1), (.ref b1)])) X19 (fun t k => X19.ldcInt hx hown (mvT hZ (hw _ (List.mem_of_getElem? (i := 8) rfl))) (g := (mkF m 107 #[.val (.int p0), .val (.int p1), .val (.int p2), .unset, .unset, .unset, .unset] [(.int (18 : Int32)), (.ref b1), (.ref b1)])) rfl (hb hby at_107) _ k) ?_
  obtain ⟨T20, h20, L20, X20, e20, N20, K20, A20, st20⟩ := own_stI X19 hx hZ e19 N19 (G := (G0_103)) B19 g_b1 (j := (18 : Int32)) (x := (65535 : Int32)) (by decide) (g := (mkF m 109 #[.val (.int p0), .val (.int p1), .val (.int p2), .unset, .unset, .unset, .unset] [(.int (65535 : Int32)), (.int (18 : Int32)), (.ref b1), (.ref b1)])) rfl rfl (hb hby at_109)
  have B20 : Ary Z h20 b1 .int 23 (fun i => .int ((G0_109) i)) := A20
  have Z20 : n0 ≤ h20.size := Nat.le_trans Z19 K20.1
  refine OwnFin.step (g' := (mkF m 110 #[.val (.int p0), .val (.int p1), .val (.int p2), .unset, .unset, .unset, .unset] [(.ref b1)])) X20 (fun t k => st20 _ k) ?_
  refine OwnFin.step (g' := (mkF m 111 #[.val (.int p0), .val (.int p1), .val (.int p2), .unset, .unset, .unset, .unset] [(.ref b1), (.ref b1)])) X20 (fun t k => XS.dup X20.here hx rfl (hb hby at_110) rfl rfl k) ?_
  refine OwnFin.step (g' := (mkF m 113 #[.val (.int p0), .val (.int p1), .val (.int p2), .unset, .unset, .unset, .unset] [(.int (19 : Int32)), (.ref b1), (.ref b1)])) X20 (fun t k => XS.bipush X20.here hx rfl (hb hby at_111) k) ?_
  refine OwnFin.step (g' := (mkF m 115 #[.val (.int p0), .val (.int p1), .val (.int p2), .unset, .unset, .unset, .unset] [(.int (65536 : Int32)), (.int (19 : Int32)), (.ref b1), (.ref b1)])) X20 (fun t k => X20.ldcInt hx hown (mvT hZ (hw _ (List.mem_of_getElem? (i := 9) rfl))) (g := (mkF m 113 #[.val (.int p0), .val (.int p1), .val (.int p2), .unset, .unset, .unset, .unset] [(.int (19 : Int32)), (.ref b1), (.ref b1)])) rfl (hb hby at_113) _ k) ?_
  obtain ⟨T21, h21, L21, X21, e21, N21, K21, A21, st21⟩ := own_stI X20 hx hZ e20 N20 (G := (G0_109)) B20 g_b1 (j := (19 : Int32)) (x := (65536 : Int32)) (by decide) (g := (mkF m 115 #[.val (.int p0), .val (.int p1), .val (.int p2), .unset, .unset, .unset, .unset] [(.int (65536 : Int32)), (.int (19 : Int32)), (.ref b1), (.ref b1)])) rfl rfl (hb hby at_115)
  have B21 : Ary Z h21 b1 .int 23 (fun i => .int ((G0_115) i)) := A21
  have Z21 : n0 ≤ h21.size := Nat.le_trans Z20 K21.1
  refine OwnFin.step (g' := (mkF m 116 #[.val (.int p0), .val (.int p1), .val (.int p2), .unset, .unset, .unset, .unset] [(.ref b1)])) X21 (fun t k => st21 _ k) ?_
  refine OwnFin.step (g' := (mkF m 117 #[.val (.int p0), .val (.int p1), .val (.int p2), .unset, .unset, .unset, .unset] [(.ref b1), (.ref b1)])) X21 (fun t k => XS.dup X21.here hx rfl (hb hby at_116) rfl rfl k) ?_
  refine OwnFin.step (g' := (mkF m 119 #[.val (.int p0), .val (.int p1), .val (.int p2), .unset, .unset, .unset, .unset] [(.int (20 : Int32)), (.ref b1), (.ref b1)])) X21 (fun t k => XS.bipush X21.here hx rfl (hb hby at_117) k) ?_
  refine OwnFin.step (g' := (mkF m 121 #[.val (.int p0), .val (.int p1), .val (.int p2), .unset, .unset, .unset, .unset] [(.int (1114111 : Int32)), (.int (20 : Int32)), (.ref b1), (.ref b1)])) X21 (fun t k => X21.ldcInt hx hown (mvT hZ (hw _ (List.mem_of_getElem? (i := 10) rfl))) (g := (mkF m 119 #[.val (.int p0), .val (.int p1), .val (.int p2), .unset, .unset, .unset, .unset] [(.int (20 : Int32)), (.ref b1), (.ref b1)])) rfl (hb hby at_119) _ k) ?_
  obtain ⟨T22, h22, L22, X22, e22, N22, K22, A22, st22⟩ := own_stI X21 hx hZ e21 N21 (G := (G0_115)) B21 g_b1 (j := (20 : Int32)) (x := (1114111 : Int32)) (by decide) (g := (mkF m 121 #[.val (.int p0), .val (.int p1), .val (.int p2), .unset, .unset, .unset, .unset] [(.int (1114111 : Int32)), (.int (20 : Int32)), (.ref b1), (.ref b1)])) rfl rfl (hb hby at_121)
  have B22 : Ary Z h22 b1 .int 23 (fun i => .int ((G0_121) i)) := A22
  have Z22 : n0 ≤ h22.size := Nat.le_trans Z21 K22.1
  refine OwnFin.step (g' := (mkF m 122 #[.val (.int p0), .val (.int p1), .val (.int p2), .unset, .unset, .unset, .unset] [(.ref b1)])) X22 (fun t k => st22 _ k) ?_
  refine OwnFin.step (g' := (mkF m 123 #[.val (.int p0), .val (.int p1), .val (.int p2), .unset, .unset, .unset, .unset] [(.ref b1), (.ref b1)])) X22 (fun t k => XS.dup X22.here hx rfl (hb hby at_122) rfl rfl k) ?_
  refine OwnFin.step (g' := (mkF m 125 #[.val (.int p0), .val (.int p1), .val (.int p2), .unset, .unset, .unset, .unset] [(.int (21 : Int32)), (.ref b1), (.ref b1)])) X22 (fun t k => XS.bipush X22.here hx rfl (hb hby at_123) k) ?_
  refine OwnFin.step (g' := (mkF m 127 #[.val (.int p0), .val (.int p1), .val (.int p2), .unset, .unset, .unset, .unset] [(.int (1114112 : Int32)), (.int (21 : Int32)), (.ref b1), (.ref b1)])) X22 (fun t k => X22.ldcInt hx hown (mvT hZ (hw _ (List.mem_of_getElem? (i := 11) rfl))) (g := (mkF m 125 #[.val (.int p0), .val (.int p1), .val (.int p2), .unset, .unset, .unset, .unset] [(.int (21 : Int32)), (.ref b1), (.ref b1)])) rfl (hb hby at_125) _ k) ?_
  obtain ⟨T23, h23, L23, X23, e23, N23, K23, A23, st23⟩ := own_stI X22 hx hZ e22 N22 (G := (G0_121)) B22 g_b1 (j := (21 : Int32)) (x := (1114112 : Int32)) (by decide) (g := (mkF m 127 #[.val (.int p0), .val (.int p1), .val (.int p2), .unset, .unset, .unset, .unset] [(.int (1114112 : Int32)), (.int (21 : Int32)), (.ref b1), (.ref b1)])) rfl rfl (hb hby at_127)
  have B23 : Ary Z h23 b1 .int 23 (fun i => .int ((G0_127) i)) := A23
  have Z23 : n0 ≤ h23.size := Nat.le_trans Z22 K23.1
  refine OwnFin.step (g' := (mkF m 128 #[.val (.int p0), .val (.int p1), .val (.int p2), .unset, .unset, .unset, .unset] [(.ref b1)])) X23 (fun t k => st23 _ k) ?_
  refine OwnFin.step (g' := (mkF m 129 #[.val (.int p0), .val (.int p1), .val (.int p2), .unset, .unset, .unset, .unset] [(.ref b1), (.ref b1)])) X23 (fun t k => XS.dup X23.here hx rfl (hb hby at_128) rfl rfl k) ?_
  refine OwnFin.step (g' := (mkF m 131 #[.val (.int p0), .val (.int p1), .val (.int p2), .unset, .unset, .unset, .unset] [(.int (22 : Int32)), (.ref b1), (.ref b1)])) X23 (fun t k => XS.bipush X23.here hx rfl (hb hby at_129) k) ?_
  refine OwnFin.step (g' := (mkF m 133 #[.val (.int p0), .val (.int p1), .val (.int p2), .unset, .unset, .unset, .unset] [(.int (2147483647 : Int32)), (.int (22 : Int32)), (.ref b1), (.ref b1)])) X23 (fun t k => X23.ldcInt hx hown (mvT hZ (hw _ (List.mem_of_getElem? (i := 12) rfl))) (g := (mkF m 131 #[.val (.int p0), .val (.int p1), .val (.int p2), .unset, .unset, .unset, .unset] [(.int (22 : Int32)), (.ref b1), (.ref b1)])) rfl (hb hby at_131) _ k) ?_
  obtain ⟨T24, h24, L24, X24, e24, N24, K24, A24, st24⟩ := own_stI X23 hx hZ e23 N23 (G := (G0_127)) B23 g_b1 (j := (22 : Int32)) (x := (2147483647 : Int32)) (by decide) (g := (mkF m 133 #[.val (.int p0), .val (.int p1), .val (.int p2), .unset, .unset, .unset, .unset] [(.int (2147483647 : Int32)), (.int (22 : Int32)), (.ref b1), (.ref b1)])) rfl rfl (hb hby at_133)
  have B24 : Ary Z h24 b1 .int 23 (fun i => .int ((G0_133) i)) := A24
  have Z24 : n0 ≤ h24.size := Nat.le_trans Z23 K24.1
  refine OwnFin.step (g' := (mkF m 134 #[.val (.int p0), .val (.int p1), .val (.int p2), .unset, .unset, .unset, .unset] [(.ref b1)])) X24 (fun t k => st24 _ k) ?_
  refine OwnFin.step (g' := (mkF m 135 #[.val (.int p0), .val (.int p1), .val (.int p2), .val (.ref b1), .unset, .unset, .unset] [])) X24 (fun t k => XS.astoreN X24.here hx rfl (hb hby at_134) rfl rfl (l' := #[.val (.int p0), .val (.int p1), .val (.int p2), .val (.ref b1), .unset, .unset, .unset]) rfl k) ?_
  refine OwnFin.step (g' := (mkF m 136 #[.val (.int p0), .val (.int p1), .val (.int p2), .val (.ref b1), .unset, .unset, .unset] [(.int p1)])) X24 (fun t k => XS.iloadN X24.here hx rfl (hb hby at_135) rfl k) ?_
  refine OwnFin.step (g' := (mkF m 137 #[.val (.int p0), .val (.int p1), .val (.int p2), .val (.ref b1), .unset, .unset, .unset] [(.int (1 : Int32)), (.int p1)])) X24 (fun t k => XS.iconst X24.here hx rfl (hb hby at_136) k) ?_
  refine OwnFin.step (g' := (mkF m 138 #[.val (.int p0), .val (.int p1), .val (.int p2), .val (.ref b1), .unset, .unset, .unset] [(.int (p1 &&& (1 : Int32)))])) X24 (fun t k => XS.iand X24.here hx rfl (hb hby at_137) rfl k) ?_
  by_cases hb138 : (p1 &&& (1 : Int32)) = (0 : Int32)
  · skip
    refine OwnFin.step (g' := (mkF m 141 #[.val (.int p0), .val (.int p1), .val (.int p2), .val (.ref b1), .unset, .unset, .unset] [])) X24 (fun t k => XS.ifNo X24.here hx rfl (hb hby at_138) rfl ((if0 _ _).trans (teq hb138).2) k) ?_
    refine OwnFin.step (g' := (mkF m 142 #[.val (.int p0), .val (.int p1), .val (.int p2), .val (.ref b1), .unset, .unset, .unset] [(.int p0)])) X24 (fun t k => XS.iloadN X24.here hx rfl (hb hby at_141) rfl k) ?_
    refine OwnFin.step (g' := (mkF m 144 #[.val (.int p0), .val (.int p1), .val (.int p2), .val (.ref b1), .val (.int p0), .unset, .unset] [])) X24 (fun t k => XS.istore X24.here hx rfl (hb hby at_142) rfl (l' := #[.val (.int p0), .val (.int p1), .val (.int p2), .val (.ref b1), .val (.int p0), .unset, .unset]) rfl k) ?_
    refine OwnFin.step (g' := (mkF m 171 #[.val (.int p0), .val (.int p1), .val (.int p2), .val (.ref b1), .val (.int p0), .unset, .unset] [])) X24 (fun t k => XS.goto X24.here hx rfl (pc0 := 144) (pc' := 171) rfl (hb hby at_144) (by decide) (by decide) k) ?_
    exact j0c171 X24 hx hZ hw hby hml hown hnm e24 N24 Z24 p0 p1 p2 p0 (.unset) (.unset) b1 (Or.inl rfl) (Or.inl rfl) B24 g_b1
  · skip
    refine OwnFin.step (g' := (mkF m 147 #[.val (.int p0), .val (.int p1), .val (.int p2), .val (.ref b1), .unset, .unset, .unset] [])) X24 (fun t k => XS.ifYes X24.here hx rfl (pc0 := 138) (pc' := 147) rfl (hb hby at_138) rfl ((if0 _ _).trans (feq hb138).2) (by decide) (by decide) k) ?_
    refine OwnFin.step (g' := (mkF m 148 #[.val (.int p0), .val (.int p1), .val (.int p2), .val (.ref b1), .unset, .unset, .unset] [(.int p1)])) X24 (fun t k => XS.iloadN X24.here hx rfl (hb hby at_147) rfl k) ?_
    refine OwnFin.step (g' := (mkF m 149 #[.val (.int p0), .val (.int p1), .val (.int p2), .val (.ref b1), .unset, .unset, .unset] [(.int (1 : Int32)), (.int p1)])) X24 (fun t k => XS.iconst X24.here hx rfl (hb hby at_148) k) ?_
    refine OwnFin.step (g' := (mkF m 150 #[.val (.int p0), .val (.int p1), .val (.int p2), .val (.ref b1), .unset, .unset, .unset] [(.int (XT.ushr p1 (1 : Int32)))])) X24 (fun t k => XT.iushr X24.here hx rfl (hb hby at_149) rfl k) ?_
    refine OwnFin.step (g' := (mkF m 151 #[.val (.int p0), .val (.int p1), .val (.int p2), .val (.ref b1), .unset, .unset, .unset] [(.ref b1), (.int (XT.ushr p1 (1 : Int32)))])) X24 (fun t k => XS.aloadN X24.here hx rfl (hb hby at_150) rfl rfl k) ?_
    refine OwnFin.step (g' := (mkF m 152 #[.val (.int p0), .val (.int p1), .val (.int p2), .val (.ref b1), .unset, .unset, .unset] [(.int (23 : Int32)), (.int (XT.ushr p1 (1 : Int32)))])) X24 (fun t k => own_len X24 hx hZ e24 B24 (g := (mkF m 151 #[.val (.int p0), .val (.int p1), .val (.int p2), .val (.ref b1), .unset, .unset, .unset] [(.ref b1), (.int (XT.ushr p1 (1 : Int32)))])) rfl rfl (hb hby at_151) _ k) ?_
    refine OwnFin.step (g' := (mkF m 153 #[.val (.int p0), .val (.int p1), .val (.int p2), .val (.ref b1), .unset, .unset, .unset] [(.int ((XT.ushr p1 (1 : Int32)) % (23 : Int32)))])) X24 (fun t k => iremM X24 hx rfl (hb hby at_152) rfl (by decide) k) ?_
    refine OwnFin.step (g' := (mkF m 155 #[.val (.int p0), .val (.int p1), .val (.int p2), .val (.ref b1), .unset, .val (.int (v0_153 p1)), .unset] [])) X24 (fun t k => XS.istore X24.here hx rfl (hb hby at_153) rfl (l' := #[.val (.int p0), .val (.int p1), .val (.int p2), .val (.ref b1), .unset, .val (.int (v0_153 p1)), .unset]) rfl k) ?_
    refine OwnFin.step (g' := (mkF m 156 #[.val (.int p0), .val (.int p1), .val (.int p2), .val (.ref b1), .unset, .val (.int (v0_153 p1)), .unset] [(.int p2)])) X24 (fun t k => XS.iloadN X24.here hx rfl (hb hby at_155) rfl k) ?_
    refine OwnFin.step (g' := (mkF m 157 #[.val (.int p0), .val (.int p1), .val (.int p2), .val (.ref b1), .unset, .val (.int (v0_153 p1)), .unset] [(.int (3 : Int32)), (.int p2)])) X24 (fun t k => XS.iconst X24.here hx rfl (hb hby at_156) k) ?_
    refine OwnFin.step (g' := (mkF m 158 #[.val (.int p0), .val (.int p1), .val (.int p2), .val (.ref b1), .unset, .val (.int (v0_153 p1)), .unset] [(.int (p2 &&& (3 : Int32)))])) X24 (fun t k => XS.iand X24.here hx rfl (hb hby at_157) rfl k) ?_
    refine OwnFin.step (g' := (mkF m 159 #[.val (.int p0), .val (.int p1), .val (.int p2), .val (.ref b1), .unset, .val (.int (v0_153 p1)), .unset] [(.int (1 : Int32)), (.int (p2 &&& (3 : Int32)))])) X24 (fun t k => XS.iconst X24.here hx rfl (hb hby at_158) k) ?_
    refine OwnFin.step (g' := (mkF m 160 #[.val (.int p0), .val (.int p1), .val (.int p2), .val (.ref b1), .unset, .val (.int (v0_153 p1)), .unset] [(.int ((p2 &&& (3 : Int32)) - (1 : Int32)))])) X24 (fun t k => XS.isub X24.here hx rfl (hb hby at_159) rfl k) ?_
    refine OwnFin.step (g' := (mkF m 162 #[.val (.int p0), .val (.int p1), .val (.int p2), .val (.ref b1), .unset, .val (.int (v0_153 p1)), .val (.int (v0_160 p2))] [])) X24 (fun t k => XS.istore X24.here hx rfl (hb hby at_160) rfl (l' := #[.val (.int p0), .val (.int p1), .val (.int p2), .val (.ref b1), .unset, .val (.int (v0_153 p1)), .val (.int (v0_160 p2))]) rfl k) ?_
    refine OwnFin.step (g' := (mkF m 163 #[.val (.int p0), .val (.int p1), .val (.int p2), .val (.ref b1), .unset, .val (.int (v0_153 p1)), .val (.int (v0_160 p2))] [(.ref b1)])) X24 (fun t k => XS.aloadN X24.here hx rfl (hb hby at_162) rfl rfl k) ?_
    refine OwnFin.step (g' := (mkF m 165 #[.val (.int p0), .val (.int p1), .val (.int p2), .val (.ref b1), .unset, .val (.int (v0_153 p1)), .val (.int (v0_160 p2))] [(.int (v0_153 p1)), (.ref b1)])) X24 (fun t k => XS.iload X24.here hx rfl (hb hby at_163) rfl k) ?_
    refine OwnFin.step (g' := (mkF m 166 #[.val (.int p0), .val (.int p1), .val (.int p2), .val (.ref b1), .unset, .val (.int (v0_153 p1)), .val (.int (v0_160 p2))] [(.int ((G0_133) ((v0_153 p1)).toNatClampNeg))])) X24 (fun t k => own_ldI X24 hx hZ e24 B24 (ib0_165b p1 hb138) rfl (g := (mkF m 165 #[.val (.int p0), .val (.int p1), .val (.int p2), .val (.ref b1), .unset, .val (.int (v0_153 p1)), .val (.int (v0_160 p2))] [(.int (v0_153 p1)), (.ref b1)])) rfl rfl (hb hby at_165) _ k) ?_
    refine OwnFin.step (g' := (mkF m 168 #[.val (.int p0), .val (.int p1), .val (.int p2), .val (.ref b1), .unset, .val (.int (v0_153 p1)), .val (.int (v0_160 p2))] [(.int (v0_160 p2)), (.int ((G0_133) ((v0_153 p1)).toNatClampNeg))])) X24 (fun t k => XS.iload X24.here hx rfl (hb hby at_166) rfl k) ?_
    refine OwnFin.step (g' := (mkF m 169 #[.val (.int p0), .val (.int p1), .val (.int p2), .val (.ref b1), .unset, .val (.int (v0_153 p1)), .val (.int (v0_160 p2))] [(.int (((G0_133) ((v0_153 p1)).toNatClampNeg) + (v0_160 p2)))])) X24 (fun t k => XS.iadd X24.here hx rfl (hb hby at_168) rfl k) ?_
    refine OwnFin.step (g' := (mkF m 171 #[.val (.int p0), .val (.int p1), .val (.int p2), .val (.ref b1), .val (.int (v0_169 p1 p2)), .val (.int (v0_153 p1)), .val (.int (v0_160 p2))] [])) X24 (fun t k => XS.istore X24.here hx rfl (hb hby at_169) rfl (l' := #[.val (.int p0), .val (.int p1), .val (.int p2), .val (.ref b1), .val (.int (v0_169 p1 p2)), .val (.int (v0_153 p1)), .val (.int (v0_160 p2))]) rfl k) ?_
    exact j0c171 X24 hx hZ hw hby hml hown hnm e24 N24 Z24 p0 p1 p2 (v0_169 p1 p2) (.val (.int (v0_153 p1))) (.val (.int (v0_160 p2))) b1 (Or.inr ⟨_, rfl, rfl⟩) (Or.inr ⟨_, rfl, rfl⟩) B24 g_b1
set_option maxRecDepth 65536 in
set_option maxHeartbeats 40000000 in
theorem rm0 (l : Launch) (Z : State) (a0 : Array Value) (hw : ∀ d ∈ tables_1, d.before a0 Z = true) (ws : List Jvm.Cond) (p0 : Int32) (p1 : Int32) (p2 : Int32) (h0 : Heap) (n0 : Nat) (Z0 : n0 ≤ h0.size) :
    MetFree l x (head1 (Jvm.Cond.code x code maxLocals ret :: ws) room_1) (fun a U => a = #[(.int p0), (.int p1), (.int p2)] ∧ Z.Warmed39 U.vm ∧ U.heap = h0) (fun _ _ _ _ _ => True) (fun _ U o U' => ∃ v L, o = .returned v ∧ (LQ n0) v U'.heap L ∧ FrameEnd U o U' L room_1.cells room_1.slots) :=
  own_met (ret := ret) (Q := (LQ n0)) (plainFor_of_name pn_0) (fun m => ef_0 m p0 p1 p2) (fun p e s m below meth c s₁ X hx hby hml hown hnm hZ e0 => j0 X hx hZ hw hby hml hown hnm e0 (Fr.nil n0) Z0 p0 p1 p2)
set_option maxRecDepth 65536 in
set_option maxHeartbeats 40000000 in
theorem comes_1 {Post : Tables → Env → Array Value → State → Outcome → State → Prop} (hpost : ∀ tb e args s v u, (limb_1_1.after args s (.returned v) u = true ∧ limb_1_2.after args s (.returned v) u = true ∧ True) → FrameEnd s (.returned v) u (Jvm.fieldLocs frame_1_writes args s ++ Jvm.arrayLocs frame_1_arrays args s ++ Jvm.staticLocs frame_1_statics s) 16 128 → Post tb e args s (.returned v) u) :
    ArmFor flags0 classFile x code maxLocals ret World_1 tables_1 room_1 Calls_1 rest_1 Pre_1 Post := by
  intro l hfl _ _ p e ha hc hk s m args below hf hA hF happ hP
  obtain ⟨hcalls, hrest, hpre⟩ := hP
  obtain ⟨-, -, -, hnamed, -, -, -, hat⟩ := (Spec.applies_iff hf).mp happ
  obtain ⟨hg, hn⟩ := and_e (Cond.before_iff.mp (show (Jvm.Cond.and given_1 narrow_1).before args s = true from hpre))
  obtain ⟨g1, g2⟩ := and_e hg
  obtain ⟨g3, g4⟩ := and_e g2
  obtain ⟨g5, g6⟩ := and_e g4
  obtain ⟨w0, w1, w2, rfl⟩ : ∃ w0 w1 w2 : Value, args = #[w0, w1, w2] := by
    have hs : args.size = 3 := by simpa [Cond.value, given_1] using g1
    obtain ⟨L⟩ := args
    match L, hs with
    | [w0, w1, w2], _ => exact ⟨w0, w1, w2, rfl⟩
  have hw := fun d (hd : d ∈ tables_1) => atoms_spec (ws := Jvm.Cond.code x code maxLocals ret :: tables_1) hat d (List.mem_cons_of_mem _ hd)
  obtain ⟨i0, ei0⟩ := is_v g3
  obtain rfl : w0 = (.int i0) := Option.some.inj ei0
  obtain ⟨i1, ei1⟩ := is_v g5
  obtain rfl : w1 = (.int i1) := Option.some.inj ei1
  obtain ⟨i2, ei2⟩ := is_v g6
  obtain rfl : w2 = (.int i2) := Option.some.inj ei2
  obtain ⟨n, o, h1, h2, h3, _, L, rfl, ⟨rfl, N⟩, hq⟩ := rm0 l s _ hw tables_1 i0 i1 i2 s.heap s.heap.size (Nat.le_refl _) p e ha hc hk s m _ below hf ((Spec.applies_iff_loose hf).mp happ).1 ⟨rfl, State.Warmed39.refl s, rfl⟩ trivial
  refine ⟨n, _, h1, h2, h3, hpost _ _ _ _ _ _ ⟨Cond.after_iff.mpr rfl, Cond.after_iff.mpr (eq_i res_at (Term.int_eval (1)) rfl), trivial⟩ ⟨hq.1, hq.2.1, (hq.2.2.sift fun y hy => Or.inr (N y hy)).mono (by decide) (by decide)⟩⟩
theorem main_1_1 : Claimed_1_1 := comes_1 fun _ _ _ _ _ _ h hF => ⟨h.1, hF⟩
theorem main_1_2 : Claimed_1_2 := comes_1 fun _ _ _ _ _ _ h hF => ⟨h.2.1, hF⟩
end Jvm.Pilot.@@N@@
namespace Jvm.Pilot.@@N@@
open Jvm Jvm.ClassFile Sem Op Lib Jvm.Free Jvm.Stand Jvm.Pilot.@@N@@.Jvm.D
/-! MADE BY PROGRAM (witnessworld.py) out of the Statement's table words and the real class files: 9 classes; the members and pool entries that the words name. The judged class is class 1, her method 2. -/
namespace start1
open Jvm.ClassFile
def u (s : String) : CpInfo := .utf8 (stringToUtf16 s)
/-- a pool by its gaps: so many unusable entries, then the entry; so many at the end -/
def gap : Nat → List CpInfo → List CpInfo
  | 0, r => r
  | n + 1, r => .unusable :: gap n r
def poolList (es : List (Nat × CpInfo)) (last : Nat) : List CpInfo := es.foldr (fun e r => gap e.1 (e.2 :: r)) (gap last [])
def pool (es : List (Nat × CpInfo)) (last : Nat) : Array CpInfo := ⟨poolList es last⟩
def fileOf (pool : Array CpInfo) (this : Nat) (attrs : Array Attribute := #[]) (ms : Array MethodInfo := #[]) (fl : Nat := 33) (sup : Nat := 0) (ifs : Array Nat := #[]) (fds : Array FieldInfo := #[]) : ClassFile where
  minorVersion := 0
  majorVersion := 65
  constantPool := pool
  accessFlags := fl
  thisClass := this
  superClass := sup
  interfaces := ifs
  fields := fds
  methods := ms
  attributes := attrs
def plain (name : String) (sup : Option ClassId) : Class where
  name := name
  kind := .ordinary
  loader := none
  accessFlags := 33
  super := sup
  interfaces := #[]
  cf := none
  fields := #[]
  methods := #[]
  instanceTypes := #[]
  staticTypes := #[]
  resolved := #[]
  callSites := []
  init := .initialized
  statics := none
  mirror := none

def pool0 : Array CpInfo := pool [(5, u "<init>"), (0, u "()V"), (1, .class_ 10), (1, u "java/lang/Object")] 113

def k0m0 : Method := { name := "<init>", desc := "()V", sig := { parameters := [], returnType := none }, accessFlags := 1, code := none }
/-- java/lang/Object -/
def k0 : Class := { plain "java/lang/Object" none with
  accessFlags := 33
  interfaces := #[]
  cf := some (fileOf pool0 8 #[] #[{ accessFlags := 1, nameIndex := 5, descriptorIndex := 6, attributes := #[] }] 33 0 #[] #[])
  fields := #[]
  methods := #[k0m0]
  instanceTypes := #[]
  staticTypes := #[]
  resolved := Array.replicate 124 none
  statics := none }

def pool1 : Array CpInfo := pool [(2, .class_ 4), (1, u "java/lang/Object"), (0, u "<init>"), (0, u "()V"), (0, .integer 1114111), (0, .integer 55296), (0, .integer 57343), (0, .integer 65534), (0, .integer 65535), (2, .integer 2147483648), (0, .integer 55295), (0, .integer 57344), (0, .integer 65533), (0, .integer 65536), (0, .integer 1114112), (0, .integer 2147483647), (0, .methodref 22 23), (0, .class_ 24), (0, .nameAndType 25 26), (0, u "com/example/shapeloom/shapeloom/rdf/XmlCharacters"), (0, u "isChar"), (0, u "(I)Z"), (0, .methodref 28 29), (0, .class_ 30), (0, .nameAndType 31 26), (0, u "com/example/shapeloom/shapeloom/rdf/XmlCharactersIsCharPinLaw"), (0, u "forbidden"), (3, u "law"), (0, u "(III)Z")] 4

def k1m0 : Method := { name := "<init>", desc := "()V", sig := { parameters := [], returnType := none }, accessFlags := 2, code := none }
def k1c1 : Code := { maxStack := 2, maxLocals := 1, code := method_2_code, exceptionTable := #[], attributes := #[] }
def k1m1 : Method := { name := "forbidden", desc := "(I)Z", sig := { parameters := [.int], returnType := some .boolean }, accessFlags := 10, code := some k1c1 }
def k1c2 : Code := { maxStack := 4, maxLocals := 7, code := code, exceptionTable := #[], attributes := #[] }
def k1m2 : Method := { name := "law", desc := "(III)Z", sig := { parameters := [.int, .int, .int], returnType := some .boolean }, accessFlags := 9, code := some k1c2 }
/-- com/example/shapeloom/shapeloom/rdf/XmlCharactersIsCharPinLaw -/
def k1 : Class := { plain "com/example/shapeloom/shapeloom/rdf/XmlCharactersIsCharPinLaw" (some 0) with
  accessFlags := 49
  interfaces := #[]
  cf := some (fileOf pool1 28 #[] #[{ accessFlags := 2, nameIndex := 5, descriptorIndex := 6, attributes := #[] }, { accessFlags := 10, nameIndex := 31, descriptorIndex := 26, attributes := #[] }, { accessFlags := 9, nameIndex := 35, descriptorIndex := 36, attributes := #[] }] 49 2 #[] #[])
  fields := #[]
  methods := #[k1m0, k1m1, k1m2]
  instanceTypes := #[]
  staticTypes := #[]
  resolved := Array.replicate 41 none
  statics := none }

def pool2 : Array CpInfo := pool [(2, .class_ 4), (1, u "java/lang/Object"), (0, u "<init>"), (0, u "()V"), (0, .integer 55295), (0, .integer 57344), (0, .integer 65533), (0, .integer 65536), (2, .integer 1114111), (5, .class_ 21), (1, u "com/example/shapeloom/shapeloom/rdf/XmlCharacters"), (1, u "(I)Z"), (2, u "isChar")] 4

def k2m0 : Method := { name := "<init>", desc := "()V", sig := { parameters := [], returnType := none }, accessFlags := 2, code := none }
def k2c1 : Code := { maxStack := 2, maxLocals := 1, code := prog_8_method_2_code, exceptionTable := #[], attributes := #[] }
def k2m1 : Method := { name := "isChar", desc := "(I)Z", sig := { parameters := [.int], returnType := some .boolean }, accessFlags := 8, code := some k2c1 }
/-- com/example/shapeloom/shapeloom/rdf/XmlCharacters -/
def k2 : Class := { plain "com/example/shapeloom/shapeloom/rdf/XmlCharacters" (some 0) with
  accessFlags := 48
  interfaces := #[]
  cf := some (fileOf pool2 19 #[] #[{ accessFlags := 2, nameIndex := 5, descriptorIndex := 6, attributes := #[] }, { accessFlags := 8, nameIndex := 26, descriptorIndex := 23, attributes := #[] }] 48 2 #[] #[])
  fields := #[]
  methods := #[k2m0, k2m1]
  instanceTypes := #[]
  staticTypes := #[]
  resolved := Array.replicate 31 none
  statics := none }

def pool3 : Array CpInfo := pool [(1, u "java/lang/Cloneable"), (0, .class_ 1), (0, u "java/lang/Object"), (0, .class_ 3)] 3

/-- java/lang/Cloneable -/
def k3 : Class := { plain "java/lang/Cloneable" (some 0) with
  accessFlags := 1537
  interfaces := #[]
  cf := some (fileOf pool3 2 #[] #[] 1537 4 #[] #[])
  fields := #[]
  methods := #[]
  instanceTypes := #[]
  staticTypes := #[]
  resolved := Array.replicate 8 none
  statics := none }

def pool4 : Array CpInfo := pool [(1, u "java/io/Serializable"), (0, .class_ 1), (0, u "java/lang/Object"), (0, .class_ 3)] 3

/-- java/io/Serializable -/
def k4 : Class := { plain "java/io/Serializable" (some 0) with
  accessFlags := 1537
  interfaces := #[]
  cf := some (fileOf pool4 2 #[] #[] 1537 4 #[] #[])
  fields := #[]
  methods := #[]
  instanceTypes := #[]
  staticTypes := #[]
  resolved := Array.replicate 8 none
  statics := none }

/-- the primitive byte -/
def k5 : Class := { plain "byte" none with kind := .primitive 'B', accessFlags := 0x411 }
/-- [B -/
def k6 : Class := { plain "[B" (some 0) with kind := .array 5 .byte, interfaces := #[3, 4], accessFlags := 1041 }

/-- the primitive int -/
def k7 : Class := { plain "int" none with kind := .primitive 'I', accessFlags := 0x411 }
/-- [I -/
def k8 : Class := { plain "[I" (some 0) with kind := .array 7 .int, interfaces := #[3, 4], accessFlags := 1041 }

def heap : Heap := #[]
def classes : Array Class := #[k0, k1, k2, k3, k4, k5, k6, k7, k8]
def interned : List (Array UInt16 × Addr) := []
def slotsUsed : Nat := 0
def theMethod : MethodId := ⟨1, 2⟩
def args0 : Array Value := #[.int 5, .int 6, .int 7]
def aboutOver (below : List Frame) : State where
  vm := { classes := classes, interned := interned.toArray }
  heap := heap
  slotsUsed := slotsUsed
  threads := #[{ frames := .invoking theMethod args0 :: below }]
def below0 : List Frame := [.native { method := ⟨0, 0⟩, args := #[] }]
def about1 : State := aboutOver below0
def p0 : Program := .bare "" "" ""
def e0 : Env := launch0.env 0 0 0
theorem w_frames : about1.frames = Frame.invoking theMethod args0 :: below0 := rfl
set_option maxRecDepth 65536 in
theorem w_args : argsFit about1.vm theMethod args0 = true := by decide +kernel
set_option maxRecDepth 65536 in
theorem w_heap : heapFits about1 = true := by decide +kernel
set_option maxRecDepth 65536 in
theorem w_runnable : about1.curStatus? = some .runnable := by decide +kernel
set_option maxRecDepth 65536 in
theorem w_alone : about1.alone = true := by decide +kernel
set_option maxRecDepth 65536 in
theorem w_named : about1.methodNamed? x = some theMethod := by decide +kernel
set_option maxRecDepth 65536 in
theorem w_hears : about1.hears theMethod below0 = true := by decide +kernel
set_option maxRecDepth 65536 in
theorem w_ripe : about1.ripe theMethod args0 below0 = true := by decide +kernel
theorem w_running : about1.status = .running := rfl
set_option maxRecDepth 65536 in
theorem w_room : about1.hasRoom e0.platform room_1 = true :=
  launch0.hasRoom_least _ room_1 (by decide +kernel) (by decide +kernel) (by decide +kernel) (by decide +kernel) (by decide +kernel) (by decide +kernel)
theorem allAtoms_all (ts : List Jvm.Cond) (a : Array Jvm.Value) (st : Jvm.State) : (allAtoms ts).before a st = ts.all (fun c => c.before a st) := by
  induction ts with
  | nil => rfl
  | cons c t ih =>
    show (Jvm.Cond.and c (allAtoms t)).before a st = _
    rw [Jvm.Cond.before_and, ih, List.all_cons]
def words1 : List Jvm.Cond := Jvm.Cond.code x code maxLocals ret :: tables_1
/-- a 'code' word, met by the world's own term for the bytes: nothing is compared byte by byte -/
theorem code_word {y : MethodName} {bytes : ByteArray} {mx : Nat} {rt : Option FieldType} {a : Array Value} {s : State} {m : MethodId} {meth : Method} {c : Code} (h1 : s.methodNamed? y = some m) (h2 : s.vm.method? m = some meth) (h3 : meth.code = some c) (h4 : c.code = bytes)
    (h5 : (c.maxLocals == mx && c.exceptionTable.isEmpty && decide (c.maxStack ≤ mostOperands) && decide (meth.sig.returnType = rt) && !meth.locks && decide (parseMethodDescriptor y.desc = some meth.sig)) = true) : (Jvm.Cond.code y bytes mx rt).before a s = true := by
  simp only [Bool.and_eq_true, beq_iff_eq, Bool.not_eq_true', decide_eq_true_eq] at h5
  obtain ⟨⟨⟨⟨⟨g1, g2⟩, g3⟩, g4⟩, g5⟩, g6⟩ := h5
  simp [Cond.before, Cond.holds, Cond.value, h1, h2, h3, h4, g1, g2, g3, g4, g5, g6]
def isCode : Jvm.Cond → Bool
  | .code _ _ _ _ => true
  | _ => false
theorem all_split {L : List Jvm.Cond} {P : Jvm.Cond → Bool} (h1 : L.all (fun c => isCode c || P c) = true) (h2 : ∀ c ∈ L.filter isCode, P c = true) : L.all P = true := by
  refine List.all_eq_true.mpr fun c hc => ?_
  have h := List.all_eq_true.mp h1 c hc
  rcases Bool.eq_false_or_eq_true (isCode c) with hi | hi
  · exact h2 c (List.mem_filter.mpr ⟨hc, hi⟩)
  · simpa [hi] using h
set_option maxRecDepth 65536 in
theorem w_c0 : (Jvm.Cond.code x code maxLocals ret).before args0 about1 = true := code_word (m := ⟨1, 2⟩) (meth := k1m2) (c := k1c2) (by decide +kernel) rfl rfl rfl (by decide +kernel)
set_option maxRecDepth 65536 in
theorem w_c1 : (Jvm.Cond.code ({ cls := "com/example/shapeloom/shapeloom/rdf/XmlCharacters", name := "isChar", desc := "(I)Z" } : Jvm.MethodName) prog_8_method_2_code (1 : Nat) (Option.some Jvm.ClassFile.FieldType.boolean)).before args0 about1 = true := code_word (m := ⟨2, 1⟩) (meth := k2m1) (c := k2c1) (by decide +kernel) rfl rfl rfl (by decide +kernel)
set_option maxRecDepth 65536 in
theorem w_c2 : (Jvm.Cond.code ({ cls := "com/example/shapeloom/shapeloom/rdf/XmlCharactersIsCharPinLaw", name := "forbidden", desc := "(I)Z" } : Jvm.MethodName) method_2_code (1 : Nat) (Option.some Jvm.ClassFile.FieldType.boolean)).before args0 about1 = true := code_word (m := ⟨1, 1⟩) (meth := k1m1) (c := k1c1) (by decide +kernel) rfl rfl rfl (by decide +kernel)
def codes1 : List Jvm.Cond := [Jvm.Cond.code x code maxLocals ret, Jvm.Cond.code ({ cls := "com/example/shapeloom/shapeloom/rdf/XmlCharacters", name := "isChar", desc := "(I)Z" } : Jvm.MethodName) prog_8_method_2_code (1 : Nat) (Option.some Jvm.ClassFile.FieldType.boolean), Jvm.Cond.code ({ cls := "com/example/shapeloom/shapeloom/rdf/XmlCharactersIsCharPinLaw", name := "forbidden", desc := "(I)Z" } : Jvm.MethodName) method_2_code (1 : Nat) (Option.some Jvm.ClassFile.FieldType.boolean)]
set_option maxRecDepth 65536 in
theorem codes_eq : words1.filter isCode = codes1 := rfl
theorem w_codes : ∀ c ∈ words1.filter isCode, c.before args0 about1 = true := by
  rw [codes_eq]
  intro c hc
  simp only [codes1, List.mem_cons, List.not_mem_nil, or_false] at hc
  rcases hc with rfl | rfl | rfl
  · exact w_c0
  · exact w_c1
  · exact w_c2
set_option maxRecDepth 65536 in
theorem w_t1 : (words1.take 24).all (fun c => isCode c || c.before args0 about1) = true := by decide +kernel
set_option maxRecDepth 65536 in
theorem w_t2 : (words1.drop 24).all (fun c => isCode c || c.before args0 about1) = true := by decide +kernel
theorem w_tables : (allAtoms (Jvm.Cond.code x code maxLocals ret :: tables_1)).before args0 about1 = true := by
  rw [allAtoms_all]
  show words1.all (fun c => c.before args0 about1) = true
  refine all_split ?_ w_codes
  rw [← List.take_append_drop 24 words1, List.all_append, w_t1, w_t2]
  rfl
set_option maxRecDepth 65536 in
theorem w_case : (Jvm.Cond.and given_1 narrow_1).before args0 about1 = true := by decide +kernel
theorem w_applies : (headSpec (Jvm.Cond.code x code maxLocals ret :: tables_1) room_1).applies x e0.platform about1 = true :=
  (Spec.applies_iff w_frames).mpr ⟨w_running, w_runnable, w_alone, w_named, w_hears, w_ripe, w_room, w_tables⟩
theorem atStart : AtStart classFile x code maxLocals ret World_1 tables_1 room_1 Calls_1 rest_1 Pre_1 launch0 p0 e0 about1 theMethod args0 below0 :=
  ⟨lists_1, trivial, launch0.admits_env _ _ _, launch0.least_env, fairChoices_fair.cas, fairChoices_fair.clock, w_frames, w_args, w_heap, w_applies, trivial, trivial, w_case⟩
end start1
theorem witness_1 : WitnessClaimed_1 := ⟨start1.p0, start1.e0, start1.about1, start1.theMethod, start1.args0, start1.below0, start1.atStart⟩
end Jvm.Pilot.@@N@@
