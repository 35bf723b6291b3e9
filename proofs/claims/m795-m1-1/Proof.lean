import JvmDerived
import JvmDerived.Pilot.@@N@@Statement
import JvmDerived.Pilot.@@N@@Code
set_option linter.unusedVariables false
set_option linter.unusedSimpArgs false
@@BLOCK:NumsL.lean.txt@@
namespace Jvm.RoadKit
open Sem ClassFile Op Lib Jvm.Stand Jvm.Free Jvm.LawKit
section OwnKit
theorem wm {α : Type} {l : List α} {a : α} (i : Nat) (h : l[i]? = some a) : a ∈ l := List.mem_of_getElem? h
variable {p : Program} {l : Launch} {e : Env} {R : Room} {s : State} {m : MethodId} {args : Array Value} {below : List Frame} {meth : Method} {c : Code} {T T' : State} {locs locs' : List Loc} {k n k' n' : Nat} {Z : State} {a0 : Array Value} {h h' h0 : Heap}
theorem retI (X : Stand p l e R s m args below meth c T locs k n) (hx : p.tables.exec = Jvm.exec) {pc : Nat} {Ls : Array Slot} {z : Int32} {rest : List Value} (hret : meth.sig.returnType = some .int) (hd : decode c.code pc = .ok (.ireturn, 1)) {fs : List Frame}
    (hl : ∀ (f : JFrame) (acts : List Action), f.method = m → f.locked = none → f.entered = [] → (doReturn e (T.setTop f) acts (some (.int z))).1 = T.setFrames fs) : Steps p.tables e below (T.setTop (mkF m pc Ls (.int z :: rest))) (T.setFrames fs) := by
  have hm' : T.vm.method? m = some meth := X.method'
  have hn : narrow .int (.int z) = .int z := rfl
  show Steps p.tables e below (T.setTop { method := m, pc := pc, locals := Ls, stack := _ :: rest, locked := none }) _
  jvm_step X.here [X.here.top, hx, hd, hm', hret, hn]
  first | (intro acts; rw [hl _ acts rfl rfl rfl]) | rw [hl _ _ rfl rfl rfl]
  exact Steps.refl _
/-- how a body may end: the instruction, the method's return type, what lies on the stack, what is handed back -/
def OwnRet (i : Instr) (ret : Option FieldType) (w v : Option Value) : Prop :=
  (i = .ireturn ∧ ∃ z : Int32, ret = some .int ∧ w = some (.int z) ∧ v = some (.int z)) ∨
  (i = .ireturn ∧ ∃ (t : FieldType) (z : Int32), ret = some t ∧ (t = .boolean ∨ t = .byte ∨ t = .char ∨ t = .short) ∧ w = some (.int z) ∧ v = some (.int (nar t z))) ∨
  (i = .lreturn ∧ ret = some .long ∧ ∃ z : Int64, w = some (.long z) ∧ v = some (.long z)) ∨
  (i = .areturn ∧ ∃ (t : FieldType) (u : Value), ret = some t ∧ t.isReference = true ∧ u.isRef = true ∧ narrow t u = u ∧ w = some u ∧ v = some u) ∨
  (i = .return_ ∧ ret = none ∧ w = none ∧ v = none)
/-- from the frame g the body comes to its return and leaves what Q says -/
def OwnFin (_X : Stand p l e R s m args below meth c T locs k n) (ret : Option FieldType) (Q : Option Value → Heap → List Loc → Prop) (K N : Nat) (g : JFrame) : Prop :=
  ∃ (i : Instr) (w v : Option Value) (T' : State) (locs' : List Loc) (k' n' pcr : Nat) (Ls : Array Slot), OwnRet i ret w v ∧ Stand p l e R s m args below meth c T' locs' k' n' ∧ k' ≤ K ∧ n' ≤ N ∧ Q v T'.heap locs' ∧ decode c.code pcr = .ok (i, 1) ∧
    ∀ t, Steps p.tables e below (T'.setTop (mkF m pcr Ls w.toList)) t → Steps p.tables e below (T.setTop g) t
variable {ret : Option FieldType} {Q : Option Value → Heap → List Loc → Prop} {K N : Nat} {g g' : JFrame}
theorem OwnFin.step {X : Stand p l e R s m args below meth c T locs k n} (X' : Stand p l e R s m args below meth c T' locs' k' n') (hs : ∀ t, Steps p.tables e below (T'.setTop g') t → Steps p.tables e below (T.setTop g) t) (hF : OwnFin X' ret Q K N g') : OwnFin X ret Q K N g := by
  obtain ⟨i, w, v, T2, locs2, k2, n2, pcr, Ls, h1, h2, h3, h4, h5, h6, h7⟩ := hF
  exact ⟨i, w, v, T2, locs2, k2, n2, pcr, Ls, h1, h2, h3, h4, h5, h6, fun t k => hs t (h7 t k)⟩
theorem ost (g' : JFrame) {X : Stand p l e R s m args below meth c T locs k n} (X' : Stand p l e R s m args below meth c T' locs' k' n') (hs : ∀ t, Steps p.tables e below (T'.setTop g') t → Steps p.tables e below (T.setTop g) t) (hF : OwnFin X' ret Q K N g') : OwnFin X ret Q K N g := OwnFin.step X' hs hF
theorem OwnFin.retInt (X : Stand p l e R s m args below meth c T locs k n) {pc : Nat} {Ls : Array Slot} {z : Int32} (hd : decode c.code pc = .ok (.ireturn, 1)) (hk : k ≤ K) (hn : n ≤ N) (hQ : Q (some (.int z)) T.heap locs) : OwnFin X (some .int) Q K N (mkF m pc Ls [.int z]) :=
  ⟨.ireturn, some (.int z), _, T, locs, k, n, pc, Ls, Or.inl ⟨rfl, z, rfl, rfl, rfl⟩, X, hk, hn, hQ, hd, fun _ k => k⟩
theorem OwnFin.retNar (X : Stand p l e R s m args below meth c T locs k n) {t : FieldType} (ht : t = .boolean ∨ t = .byte ∨ t = .char ∨ t = .short) {pc : Nat} {Ls : Array Slot} {z : Int32} (hd : decode c.code pc = .ok (.ireturn, 1)) (hk : k ≤ K) (hn : n ≤ N) (hQ : Q (some (.int (nar t z))) T.heap locs) : OwnFin X (some t) Q K N (mkF m pc Ls [.int z]) :=
  ⟨.ireturn, some (.int z), _, T, locs, k, n, pc, Ls, Or.inr (Or.inl ⟨rfl, t, z, rfl, ht, rfl, rfl⟩), X, hk, hn, hQ, hd, fun _ k => k⟩
theorem OwnFin.retLong (X : Stand p l e R s m args below meth c T locs k n) {pc : Nat} {Ls : Array Slot} {z : Int64} (hd : decode c.code pc = .ok (.lreturn, 1)) (hk : k ≤ K) (hn : n ≤ N) (hQ : Q (some (.long z)) T.heap locs) : OwnFin X (some .long) Q K N (mkF m pc Ls [.long z]) :=
  ⟨.lreturn, some (.long z), _, T, locs, k, n, pc, Ls, Or.inr (Or.inr (Or.inl ⟨rfl, rfl, z, rfl, rfl⟩)), X, hk, hn, hQ, hd, fun _ k => k⟩
theorem OwnFin.retRef (X : Stand p l e R s m args below meth c T locs k n) {t : FieldType} {u : Value} (ht : t.isReference = true) (hu : u.isRef = true) (hnw : narrow t u = u) {pc : Nat} {Ls : Array Slot} (hd : decode c.code pc = .ok (.areturn, 1)) (hk : k ≤ K) (hn : n ≤ N) (hQ : Q (some u) T.heap locs) : OwnFin X (some t) Q K N (mkF m pc Ls [u]) :=
  ⟨.areturn, some u, _, T, locs, k, n, pc, Ls, Or.inr (Or.inr (Or.inr (Or.inl ⟨rfl, t, u, rfl, ht, hu, hnw, rfl, rfl⟩))), X, hk, hn, hQ, hd, fun _ k => k⟩
theorem OwnFin.retVoid (X : Stand p l e R s m args below meth c T locs k n) {pc : Nat} {Ls : Array Slot} (hd : decode c.code pc = .ok (.return_, 1)) (hk : k ≤ K) (hn : n ≤ N) (hQ : Q none T.heap locs) : OwnFin X none Q K N (mkF m pc Ls []) :=
  ⟨.return_, none, _, T, locs, k, n, pc, Ls, Or.inr (Or.inr (Or.inr (Or.inr ⟨rfl, rfl, rfl, rfl⟩))), X, hk, hn, hQ, hd, fun _ k => k⟩
theorem own_met {y : MethodName} {bytes : ByteArray} {maxL : Nat} {rm : Room} {ws : List Jvm.Cond} {as' : Array Value} {Ls : Array Slot} (hpf : plainFor y = true) (hent : ∀ m, entryFrame m as' maxL = mkF m 0 Ls [])
    (H : ∀ p e s m below meth c s₁ (X : Stand p l e rm s m as' below meth c s₁ [] 0 0), p.tables.exec = Jvm.exec → c.code = bytes → c.maxLocals = maxL → s.vm.findClass y.cls = some m.cls → meth.name = y.name → Z.Warmed39 s.vm → s₁.heap = h0 → OwnFin X ret Q rm.cells rm.slots (mkF m 0 Ls [])) :
    MetFree l y (head1 (Jvm.Cond.code y bytes maxL ret :: ws) rm) (fun a U => a = as' ∧ Z.Warmed39 U.vm ∧ U.heap = h0) (fun _ _ _ _ _ => True) (fun _ U o U' => ∃ v L, o = .returned v ∧ Q v U'.heap L ∧ FrameEnd U o U' L rm.cells rm.slots) := by
  refine MetFree.of_bodySF hpf hisR ?_
  intro p e s m args below meth c s₁ Bd hml0 hP hK
  obtain ⟨rfl, hZ, hh⟩ := hP
  have hx := Bd.exec
  have hby := Bd.bytes
  have hown : s.vm.findClass y.cls = some m.cls := findClass_of_methodNamed Bd.named
  have hnm := (name_of_methodNamed Bd.named Bd.method).1
  have X0 : Stand p l e rm s m args below meth c s₁ [] 0 0 := Stand.of_body Bd
  have e0 : s₁.heap = h0 := by rw [← hh, Bd.state]; rfl
  obtain ⟨i, w, v, T2, locs2, k2, n2, pcr, Ls2, h1, X2, h3, h4, h5, h6, h7⟩ := H p e s m below meth c s₁ X0 hx hby hml0 hown hnm hZ e0
  have hret := Bd.returns
  have hv : meth.sig.returnType = none → v = none := by
    intro q
    rw [hret] at q
    rcases h1 with ⟨-, z, hr, -⟩ | ⟨-, t, z, hr, -⟩ | ⟨-, hr, -⟩ | ⟨-, t, u, hr, -⟩ | ⟨-, -, -, hr⟩
    · rw [hr] at q; cases q
    · rw [hr] at q; cases q
    · rw [hr] at q; cases q
    · rw [hr] at q; cases q
    · exact hr
  obtain ⟨fs, hr, hrun, hended, hW, hsame⟩ := X2.leave (v := v) hv
  refine ⟨_, _, ?_, hrun, hended, _, _, rfl, h5, ⟨_, rfl⟩, hW, hsame.mono h3 h4⟩
  rw [hent]
  apply h7
  rcases h1 with ⟨rfl, z, rfl, rfl, rfl⟩ | ⟨rfl, t, z, rfl, ht, rfl, rfl⟩ | ⟨rfl, rfl, z, rfl, rfl⟩ | ⟨rfl, t, u, rfl, ht, hu, hnw, rfl, rfl⟩ | ⟨rfl, rfl, rfl, rfl⟩
  · exact retI X2 hx hret h6 hr
  · exact retN X2 hx hret ht h6 hr
  · exact retOut X2 hx hret rfl (Or.inr (Or.inl ⟨rfl, rfl, z, rfl⟩)) h6 hr
  · exact retOut X2 hx hret hnw (Or.inr (Or.inr (Or.inr (Or.inr ⟨rfl, ht, hu⟩)))) h6 hr
  · exact X2.returnOut hx hret h6 hr
theorem OwnFin.wide {X : Stand p l e R s m args below meth c T locs k n} {K' N' : Nat} (F : OwnFin X ret Q K N g) (h1 : K ≤ K') (h2 : N ≤ N') : OwnFin X ret Q K' N' g := by
  obtain ⟨i, w, v, T2, locs2, k2, n2, pcr, Ls, q1, q2, q3, q4, q5, q6, q7⟩ := F
  exact ⟨i, w, v, T2, locs2, k2, n2, pcr, Ls, q1, q2, Nat.le_trans q3 h1, Nat.le_trans q4 h2, q5, q6, q7⟩
/-- a callee that leaves the heap alone: what it hands back -/
def PQ (w : Option Value) (h0 : Heap) (n0 : Nat) : Option Value → Heap → List Loc → Prop := fun v h L => v = w ∧ h = h0 ∧ Fr n0 L
def LQ (n0 : Nat) : Option Value → Heap → List Loc → Prop := fun v _ L => v = some (.int 1) ∧ Fr n0 L
theorem own_callS (X : Stand p l e R s m args below meth c T locs k n) (hx : p.tables.exec = Jvm.exec) (hZ : Z.Warmed39 s.vm) {own : String} {index : Nat} {y : MethodName} {bytes : ByteArray} {maxL W : Nat} {rt : Option FieldType} {rm : Room} {argsL rest : List Value} {ps : List FieldType} {r : Option FieldType} {Qc : Option Value → Heap → List Loc → Prop}
    (hown : s.vm.findClass own = some m.cls) (w1 : (Jvm.Cond.methodLink own index y).before a0 Z = true) (w2 : (Jvm.Cond.static y).before a0 Z = true) (w3 : (Jvm.Cond.initialized y.cls).before a0 Z = true) (w4 : (Jvm.Cond.code y bytes maxL rt).before a0 Z = true) (hy : y.cls ≠ "java/lang/invoke/MethodHandle" ∧ y.cls ≠ "java/lang/invoke/VarHandle")
    (hM : MetFree l y (head1 [Jvm.Cond.code y bytes maxL rt] rm) (fun a U => a = argsL.toArray ∧ Z.Warmed39 U.vm ∧ U.heap = h) (fun _ _ _ _ _ => True) (fun _ U o U' => ∃ v L, o = .returned v ∧ Qc v U'.heap L ∧ FrameEnd U o U' L rm.cells rm.slots))
    (hf : rm.frames + 1 ≤ R.frames) (hl : W + (maxL + 11) + rm.locals ≤ R.locals) (hc : k + rm.cells ≤ R.cells) (hs : n + rm.slots ≤ R.slots) (eT : T.heap = h)
    (hg : g.method = m) (hsize : g.locals.size = c.maxLocals) (hd : parseMethodDescriptor y.desc = some ⟨ps, r⟩) (hlen : argsL.length = ps.length) (hstack : g.stack = argsL.reverse ++ rest) (hW : 2 * g.monitorRoom + (rest.map fun v => v.category).sum ≤ W) (hdg : decode c.code g.pc = .ok (.invokestatic index, 3)) :
    ∃ v T' L, Stand p l e R s m args below meth c T' (locs ++ L) (k + rm.cells) (n + rm.slots) ∧ Qc v T'.heap L ∧ ∀ t, Steps p.tables e below (T'.setTop { g with pc := g.pc + 3, stack := v.toList ++ rest }) t → Steps p.tables e below (T.setTop g) t := by
  obtain ⟨v, vm1, ⟨T', L', k', n'⟩, -, X', ⟨Lc, hQ, l1, y1, z1⟩, st⟩ := Jvm.LawKit.callS X hx (y := y) hown (mvT hZ w1) (mvT hZ w2) (mvT hZ w3) (mvT hZ w4) hy (backOf (W := W) hM hZ w4 w3 hf hl) hg hsize (argsL := argsL) (rest := rest) (lenOf hd hlen) hstack hW hdg (fun _ _ => ⟨rfl, eT, hc, hs⟩)
  dsimp only [Pt.U, Pt.locs, Pt.cells, Pt.slots] at X' l1 y1 z1 st hQ
  subst l1 y1 z1
  exact ⟨v, T', Lc, X', hQ, st⟩
theorem own_callI (X : Stand p l e R s m args below meth c T locs k n) (hx : p.tables.exec = Jvm.exec) (hZ : Z.Warmed39 s.vm) {own : String} {index : Nat} {y : MethodName} {bytes : ByteArray} {maxL W : Nat} {rm : Room} {a : Addr} {argsL rest : List Value} {ps : List FieldType} {r : Option FieldType} {Qc : Option Value → Heap → List Loc → Prop}
    (hy1 : y.name = "<init>") (hown : s.vm.findClass own = some m.cls) (w1 : (Jvm.Cond.methodLink own index y).before a0 Z = true) (w2 : (Jvm.Cond.instanceMethod y).before a0 Z = true) (w3 : (Jvm.Cond.initialized y.cls).before a0 Z = true) (w4 : (Jvm.Cond.code y bytes maxL none).before a0 Z = true) (hy : y.cls ≠ "java/lang/invoke/MethodHandle" ∧ y.cls ≠ "java/lang/invoke/VarHandle")
    (hM : MetFree l y (head1 [Jvm.Cond.code y bytes maxL none] rm) (fun a' U => a' = (Value.ref a :: argsL).toArray ∧ Z.Warmed39 U.vm ∧ U.heap = h) (fun _ _ _ _ _ => True) (fun _ U o U' => ∃ v L, o = .returned v ∧ Qc v U'.heap L ∧ FrameEnd U o U' L rm.cells rm.slots))
    (hf : rm.frames + 1 ≤ R.frames) (hl : W + (maxL + 11) + rm.locals ≤ R.locals) (hc : k + rm.cells ≤ R.cells) (hs : n + rm.slots ≤ R.slots) (eT : T.heap = h)
    (hg : g.method = m) (hsize : g.locals.size = c.maxLocals) (hd : parseMethodDescriptor y.desc = some ⟨ps, r⟩) (hlen : argsL.length = ps.length) (hstack : g.stack = argsL.reverse ++ .ref a :: rest) (hW : 2 * g.monitorRoom + (rest.map fun v => v.category).sum ≤ W) (hdg : decode c.code g.pc = .ok (.invokespecial index, 3)) :
    ∃ v T' L, Stand p l e R s m args below meth c T' (locs ++ L) (k + rm.cells) (n + rm.slots) ∧ Qc v T'.heap L ∧ ∀ t, Steps p.tables e below (T'.setTop { g with pc := g.pc + 3, stack := v.toList ++ rest }) t → Steps p.tables e below (T.setTop g) t := by
  obtain ⟨v, vm1, ⟨T', L', k', n'⟩, -, X', ⟨Lc, hQ, l1, y1, z1⟩, st⟩ := X.specialBack hx (y := y) hy1 hown (mvT hZ w1) (mvT hZ w2) (mvT hZ w4) hy (backOf (W := W) hM hZ w4 w3 hf hl) hg hsize (Steps.refl _) (a := a) (argsL := argsL) (rest := rest) (lenOf hd hlen) hstack hW hdg (fun _ _ => ⟨rfl, eT, hc, hs⟩)
  dsimp only [Pt.U, Pt.locs, Pt.cells, Pt.slots] at X' l1 y1 z1 st hQ
  subst l1 y1 z1
  exact ⟨v, T', Lc, X', hQ, fun t k => st.trans k⟩
theorem own_callV (X : Stand p l e R s m args below meth c T locs k n) (hx : p.tables.exec = Jvm.exec) (hZ : Z.Warmed39 s.vm) {own C : String} {index : Nat} {y : MethodName} {bytes : ByteArray} {maxL W : Nat} {rt : Option FieldType} {rm : Room} {a : Addr} {argsL rest : List Value} {ps : List FieldType} {r : Option FieldType} {Qc : Option Value → Heap → List Loc → Prop}
    (hown : s.vm.findClass own = some m.cls) (w1 : (Jvm.Cond.methodLink own index y).before a0 Z = true) (w2 : (Jvm.Cond.declares y).before a0 Z = true) (w5 : (Jvm.Cond.selects C y y).before a0 Z = true) (w6 : (Jvm.Cond.instanceMethod y).before a0 Z = true) (w3 : (Jvm.Cond.initialized y.cls).before a0 Z = true) (w4 : (Jvm.Cond.code y bytes maxL rt).before a0 Z = true) (hy : y.cls ≠ "java/lang/invoke/MethodHandle" ∧ y.cls ≠ "java/lang/invoke/VarHandle")
    (E : Exa Z h a C)
    (hM : MetFree l y (head1 [Jvm.Cond.code y bytes maxL rt] rm) (fun a' U => a' = (Value.ref a :: argsL).toArray ∧ Z.Warmed39 U.vm ∧ U.heap = h) (fun _ _ _ _ _ => True) (fun _ U o U' => ∃ v L, o = .returned v ∧ Qc v U'.heap L ∧ FrameEnd U o U' L rm.cells rm.slots))
    (hf : rm.frames + 1 ≤ R.frames) (hl : W + (maxL + 11) + rm.locals ≤ R.locals) (hc : k + rm.cells ≤ R.cells) (hs : n + rm.slots ≤ R.slots) (eT : T.heap = h)
    (hg : g.method = m) (hsize : g.locals.size = c.maxLocals) (hd : parseMethodDescriptor y.desc = some ⟨ps, r⟩) (hlen : argsL.length = ps.length) (hstack : g.stack = argsL.reverse ++ .ref a :: rest) (hW : 2 * g.monitorRoom + (rest.map fun v => v.category).sum ≤ W) (hdg : decode c.code g.pc = .ok (.invokevirtual index, 3)) :
    ∃ v T' L, Stand p l e R s m args below meth c T' (locs ++ L) (k + rm.cells) (n + rm.slots) ∧ Qc v T'.heap L ∧ ∀ t, Steps p.tables e below (T'.setTop { g with pc := g.pc + 3, stack := v.toList ++ rest }) t → Steps p.tables e below (T.setTop g) t := by
  obtain ⟨cq, kq, q1, q2, q3⟩ := isOf hZ eT E
  obtain ⟨v, vm1, ⟨T', L', k', n'⟩, -, X', ⟨Lc, hQ, l1, y1, z1⟩, st⟩ := X.virtualBack hx (y := y) (z := y) hown (mvT hZ w1) (mvT hZ w2) (notFace_of_selects (args := #[]) (mvT hZ w5)) (mvT hZ w5) (mvT hZ w6) hy (backOf (W := W) hM hZ w4 w3 hf hl) q1 q3 hg hsize (Steps.refl _) (argsL := argsL) (rest := rest) (lenOf hd hlen) hstack hW hdg (fun _ _ => ⟨rfl, eT, hc, hs⟩)
  dsimp only [Pt.U, Pt.locs, Pt.cells, Pt.slots] at X' l1 y1 z1 st hQ
  subst l1 y1 z1
  exact ⟨v, T', Lc, X', hQ, fun t k => st.trans k⟩
theorem lrem_eq_mod (x y : Int64) : x - (x / y) * y = x % y := by
  apply Int64.toInt_inj.mp
  have h1 := Int64.le_toInt (x % y)
  have h2 := Int64.toInt_lt (x % y)
  rw [Int64.toInt_sub, Int64.toInt_mul, Int64.toInt_div, Int.bmod_mul_bmod, Int.sub_bmod_bmod, Int.mul_comm (x.toInt.tdiv y.toInt), ← Int.tmod_def, ← Int64.toInt_mod]
  exact Int.bmod_eq_of_le_mul_two (by omega) (by omega)
theorem own_lrem (X : Stand p l e R s m args below meth c T locs k n) (hx : p.tables.exec = Jvm.exec) (hg : g.method = m) {x y : Int64} {rest : List Value} (hd : decode c.code g.pc = .ok (.lrem, 1)) (hs : g.stack = .long y :: .long x :: rest) (hy : y ≠ 0) {target : State}
    (hr : Steps p.tables e below (T.setTop { g with pc := g.pc + 1, stack := .long (x % y) :: rest }) target) : Steps p.tables e below (T.setTop g) target := by
  exact XT.lrem X.here hx hg hd hs hy (by rw [lrem_eq_mod]; exact hr)
theorem cl_lt (x y : Int64) : XT.cmpL x y < 0 ↔ x < y := by
  unfold XT.cmpL
  split
  · rename_i q; simp only [Int64.lt_iff_toInt_lt] at *; constructor <;> intro w <;> first | (exact absurd w (by decide)) | omega
  · split
    · rename_i q r; subst r; constructor <;> intro w
      · exact absurd w (by decide)
      · exact absurd w q
    · rename_i q r; constructor <;> intro w
      · simp only [Int64.lt_iff_toInt_lt, ← Int64.toInt_inj] at *; omega
      · decide
theorem cl_gt (x y : Int64) : 0 < XT.cmpL x y ↔ y < x := by
  unfold XT.cmpL
  split
  · rename_i q; exact ⟨fun _ => q, fun _ => by decide⟩
  · rename_i q
    constructor
    · intro w; split at w <;> exact absurd w (by decide)
    · intro w; exact absurd w q
theorem cl_eq (x y : Int64) : XT.cmpL x y = 0 ↔ x = y := by
  unfold XT.cmpL
  split
  · rename_i q; constructor
    · intro w; exact absurd w (by decide)
    · intro w; subst w; simp only [Int64.lt_iff_toInt_lt] at q; omega
  · split
    · rename_i r; exact ⟨fun _ => r, fun _ => rfl⟩
    · rename_i r; constructor
      · intro w; exact absurd w (by decide)
      · intro w; exact absurd w r
end OwnKit
end Jvm.RoadKit
namespace Jvm.RoadKit
open Sem ClassFile Op Lib Jvm.Stand Jvm.Free Jvm.LawKit
section OwnHeap
variable {p : Program} {l : Launch} {e : Env} {R : Room} {s : State} {m : MethodId} {args : Array Value} {below : List Frame} {meth : Method} {c : Code} {T T' : State} {locs locs' : List Loc} {k n k' n' : Nat} {Z : State} {a0 : Array Value} {h h' h0 : Heap} {g : JFrame} {a b : Addr} {ws ws' : List Addr} {n0 : Nat}
theorem keep_ext (E : Ext h h') : Keep h h' [] := (Keep.refl h []).ext E
theorem nin1 {x y : Addr} (q : x ≠ y) : x ∉ [y] := ninS q nin0
/-- an array: its length and what each place holds -/
def Ary (Z : State) (h : Heap) (a : Addr) (ty : FieldType) (n : Nat) (f : Nat → Value) : Prop := ∃ c : Cell, Arr Z h a c ty ∧ c.slots.size = n ∧ n < 2 ^ 31 ∧ ∀ i, i < n → c.slots[i]? = some (f i)
def updN {α : Type} (f : Nat → α) (j : Nat) (v : α) : Nat → α := fun i => if i = j then v else f i
theorem updN_same {α : Type} (f : Nat → α) (j : Nat) (v : α) : updN f j v j = v := if_pos rfl
theorem updN_ne {α : Type} (f : Nat → α) {i j : Nat} (v : α) (q : i ≠ j) : updN f j v i = f i := if_neg q
def InB (j : Int32) (n : Nat) : Prop := ¬ j < 0 ∧ j.toNatClampNeg < n
instance (j : Int32) (n : Nat) : Decidable (InB j n) := inferInstanceAs (Decidable (¬ j < 0 ∧ j.toNatClampNeg < n))
variable {ty : FieldType} {len : Nat} {f : Nat → Value}
theorem Ary.lt (F : Ary Z h a ty len f) : a < h.size := by obtain ⟨c, A, -⟩ := F; exact A.lt
theorem Ary.keep (F : Ary Z h a ty len f) (K : Keep h h' ws) (q : a ∉ ws) : Ary Z h' a ty len f := by
  obtain ⟨c, A, r⟩ := F; exact ⟨c, ⟨K.2.1 a c A.1 q, A.2⟩, r⟩
theorem Ary.small (F : Ary Z h a ty len f) : len < 2 ^ 31 := by obtain ⟨c, A, r1, r2, -⟩ := F; exact r2
theorem Ary.congr {f' : Nat → Value} (F : Ary Z h a ty len f) (q : ∀ i, i < len → f i = f' i) : Ary Z h a ty len f' := by
  obtain ⟨c, A, r1, r2, r3⟩ := F; exact ⟨c, A, r1, r2, fun i hi => by rw [← q i hi]; exact r3 i hi⟩
theorem Ary.wr {v : Value} {j : Nat} (F : Ary Z h a ty len f) (W : Wr h h' a j v) (hj : j < len) : Ary Z h' a ty len (updN f j v) := by
  obtain ⟨c, A, r1, r2, r3⟩ := F
  refine ⟨_, A.same W, by rw [sz_set]; exact r1, r2, fun i hi => ?_⟩
  by_cases q : i = j
  · subst q; rw [updN_same]; simp [Cell.setSlot, r1, hi]
  · rw [updN_ne _ _ q]; simp only [Cell.setSlot]; rw [Array.getElem?_setIfInBounds_ne (Ne.symm q)]; exact r3 i hi
theorem not_in {j : Int32} {n : Nat} (q : InB j n) {c : Cell} (r : c.slots.size = n) : ¬ (j < 0 ∨ c.slots.size ≤ j.toNatClampNeg) := by
  rw [r]; obtain ⟨q1, q2⟩ := q; intro z; rcases z with z | z
  · exact q1 z
  · omega
theorem own_len (X : Stand p l e R s m args below meth c T locs k n) (hx : p.tables.exec = Jvm.exec) (hZ : Z.Warmed39 s.vm) (eT : T.heap = h) (A : Ary Z h a ty len f) {rest : List Value} (hg : g.method = m) (hs : g.stack = .ref a :: rest) (hd : decode c.code g.pc = .ok (.arraylength, 1)) (t : State)
    (hr : Steps p.tables e below (T.setTop { g with pc := g.pc + 1, stack := .int len.toInt32 :: rest }) t) : Steps p.tables e below (T.setTop g) t := by
  obtain ⟨cl, A1, r1, r2, r3⟩ := A
  refine X.arraylength hx (by rw [eT]; exact A1.1) (State.isArrayOf_alike hZ.alike A1.2.1) hg hs hd t ?_
  rw [r1]; exact hr
theorem own_ldI (X : Stand p l e R s m args below meth c T locs k n) (hx : p.tables.exec = Jvm.exec) (hZ : Z.Warmed39 s.vm) (eT : T.heap = h) (A : Ary Z h a .int len f) {j : Int32} (hj : InB j len) {v : Value} (hv : f j.toNatClampNeg = v) {rest : List Value} (hg : g.method = m) (hs : g.stack = .int j :: .ref a :: rest) (hd : decode c.code g.pc = .ok (.iaload, 1)) (t : State)
    (hr : Steps p.tables e below (T.setTop { g with pc := g.pc + 1, stack := v :: rest }) t) : Steps p.tables e below (T.setTop g) t := by
  obtain ⟨cl, A1, r1, r2, r3⟩ := A
  exact X.iaload hx (by rw [eT]; exact A1.1) (State.isArrayOf_alike hZ.alike A1.2.1) A1.2.2 (not_in hj r1) (by rw [r3 _ hj.2, hv]) hg hs hd t hr
theorem own_ldJ (X : Stand p l e R s m args below meth c T locs k n) (hx : p.tables.exec = Jvm.exec) (hZ : Z.Warmed39 s.vm) (eT : T.heap = h) (A : Ary Z h a .long len f) {j : Int32} (hj : InB j len) {v : Value} (hv : f j.toNatClampNeg = v) {rest : List Value} (hg : g.method = m) (hs : g.stack = .int j :: .ref a :: rest) (hd : decode c.code g.pc = .ok (.laload, 1)) (t : State)
    (hr : Steps p.tables e below (T.setTop { g with pc := g.pc + 1, stack := v :: rest }) t) : Steps p.tables e below (T.setTop g) t := by
  obtain ⟨cl, A1, r1, r2, r3⟩ := A
  exact X.laload hx (by rw [eT]; exact A1.1) (State.isArrayOf_alike hZ.alike A1.2.1) A1.2.2 (not_in hj r1) (by rw [r3 _ hj.2, hv]) hg hs hd t hr
theorem own_ldC (X : Stand p l e R s m args below meth c T locs k n) (hx : p.tables.exec = Jvm.exec) (hZ : Z.Warmed39 s.vm) (eT : T.heap = h) (A : Ary Z h a .char len f) {j : Int32} (hj : InB j len) {v : Value} (hv : f j.toNatClampNeg = v) {rest : List Value} (hg : g.method = m) (hs : g.stack = .int j :: .ref a :: rest) (hd : decode c.code g.pc = .ok (.caload, 1)) (t : State)
    (hr : Steps p.tables e below (T.setTop { g with pc := g.pc + 1, stack := v :: rest }) t) : Steps p.tables e below (T.setTop g) t := by
  obtain ⟨cl, A1, r1, r2, r3⟩ := A
  exact X.caload hx (by rw [eT]; exact A1.1) (State.isArrayOf_alike hZ.alike A1.2.1) A1.2.2 (not_in hj r1) (by rw [r3 _ hj.2, hv]) hg hs hd t hr
theorem own_ldB (X : Stand p l e R s m args below meth c T locs k n) (hx : p.tables.exec = Jvm.exec) (hZ : Z.Warmed39 s.vm) (eT : T.heap = h) (A : Ary Z h a .byte len f) {j : Int32} (hj : InB j len) {v : Value} (hv : f j.toNatClampNeg = v) {rest : List Value} (hg : g.method = m) (hs : g.stack = .int j :: .ref a :: rest) (hd : decode c.code g.pc = .ok (.baload, 1)) (t : State)
    (hr : Steps p.tables e below (T.setTop { g with pc := g.pc + 1, stack := v :: rest }) t) : Steps p.tables e below (T.setTop g) t := by
  obtain ⟨cl, A1, r1, r2, r3⟩ := A
  exact X.baloadBytes hx (by rw [eT]; exact A1.1) (State.isArrayOf_alike hZ.alike A1.2.1) A1.2.2 (not_in hj r1) (by rw [r3 _ hj.2, hv]) hg hs hd t hr
theorem own_ldA (X : Stand p l e R s m args below meth c T locs k n) (hx : p.tables.exec = Jvm.exec) (hZ : Z.Warmed39 s.vm) (eT : T.heap = h) (A : Ary Z h a ty len f) (hty : ty.isReference = true) {j : Int32} (hj : InB j len) {v : Value} (hv : f j.toNatClampNeg = v) {rest : List Value} (hg : g.method = m) (hs : g.stack = .int j :: .ref a :: rest) (hd : decode c.code g.pc = .ok (.aaload, 1)) (t : State)
    (hr : Steps p.tables e below (T.setTop { g with pc := g.pc + 1, stack := v :: rest }) t) : Steps p.tables e below (T.setTop g) t := by
  obtain ⟨cl, A1, r1, r2, r3⟩ := A
  exact X.aaload hx (by rw [eT]; exact A1.1) (State.isArrayOf_alike hZ.alike A1.2.1) hty A1.2.2 (not_in hj r1) (by rw [r3 _ hj.2, hv]) hg hs hd t hr
theorem own_stI (X : Stand p l e R s m args below meth c T locs k n) (hx : p.tables.exec = Jvm.exec) (hZ : Z.Warmed39 s.vm) (eT : T.heap = h) (N : Fr n0 locs) {G : Nat → Int32} (A : Ary Z h a .int len (fun i => .int (G i))) (ga : n0 ≤ a) {j x : Int32} (hj : InB j len) {rest : List Value} (hg : g.method = m) (hs : g.stack = .int x :: .int j :: .ref a :: rest) (hd : decode c.code g.pc = .ok (.iastore, 1)) :
    ∃ (T' : State) (h' : Heap) (locs' : List Loc), Stand p l e R s m args below meth c T' locs' k n ∧ T'.heap = h' ∧ Fr n0 locs' ∧ Keep h h' [a] ∧ Ary Z h' a .int len (fun i => .int (updN G j.toNatClampNeg x i)) ∧ ∀ t, Steps p.tables e below (T'.setTop { g with pc := g.pc + 1, stack := rest }) t → Steps p.tables e below (T.setTop g) t := by
  obtain ⟨cl, A1, r⟩ := A
  obtain ⟨T', h', X', e', W, st⟩ := stI X hx hZ eT A1 (not_in hj r.1) hg hs hd
  exact ⟨T', h', _, X', e', Fr.snoc X' N ga, Keep.of_wr W, (Ary.wr ⟨cl, A1, r⟩ W hj.2).congr (fun i _ => by unfold updN; split <;> rfl), st⟩
theorem own_stJ (X : Stand p l e R s m args below meth c T locs k n) (hx : p.tables.exec = Jvm.exec) (hZ : Z.Warmed39 s.vm) (eT : T.heap = h) (N : Fr n0 locs) {G : Nat → Int64} (A : Ary Z h a .long len (fun i => .long (G i))) (ga : n0 ≤ a) {j : Int32} {x : Int64} (hj : InB j len) {rest : List Value} (hg : g.method = m) (hs : g.stack = .long x :: .int j :: .ref a :: rest) (hd : decode c.code g.pc = .ok (.lastore, 1)) :
    ∃ (T' : State) (h' : Heap) (locs' : List Loc), Stand p l e R s m args below meth c T' locs' k n ∧ T'.heap = h' ∧ Fr n0 locs' ∧ Keep h h' [a] ∧ Ary Z h' a .long len (fun i => .long (updN G j.toNatClampNeg x i)) ∧ ∀ t, Steps p.tables e below (T'.setTop { g with pc := g.pc + 1, stack := rest }) t → Steps p.tables e below (T.setTop g) t := by
  obtain ⟨cl, A1, r⟩ := A
  obtain ⟨T', h', X', e', W, st⟩ := stJ X hx hZ eT A1 (not_in hj r.1) hg hs hd
  exact ⟨T', h', _, X', e', Fr.snoc X' N ga, Keep.of_wr W, (Ary.wr ⟨cl, A1, r⟩ W hj.2).congr (fun i _ => by unfold updN; split <;> rfl), st⟩
theorem own_stC (X : Stand p l e R s m args below meth c T locs k n) (hx : p.tables.exec = Jvm.exec) (hZ : Z.Warmed39 s.vm) (eT : T.heap = h) (N : Fr n0 locs) {G : Nat → Int32} (A : Ary Z h a .char len (fun i => .int (G i))) (ga : n0 ≤ a) {j x : Int32} (hj : InB j len) {rest : List Value} (hg : g.method = m) (hs : g.stack = .int x :: .int j :: .ref a :: rest) (hd : decode c.code g.pc = .ok (.castore, 1)) :
    ∃ (T' : State) (h' : Heap) (locs' : List Loc), Stand p l e R s m args below meth c T' locs' k n ∧ T'.heap = h' ∧ Fr n0 locs' ∧ Keep h h' [a] ∧ Ary Z h' a .char len (fun i => .int (updN G j.toNatClampNeg (nar .char x) i)) ∧ ∀ t, Steps p.tables e below (T'.setTop { g with pc := g.pc + 1, stack := rest }) t → Steps p.tables e below (T.setTop g) t := by
  obtain ⟨cl, A1, r⟩ := A
  obtain ⟨T', h', X', e', W, st⟩ := stC X hx hZ eT A1 (not_in hj r.1) hg hs hd
  exact ⟨T', h', _, X', e', Fr.snoc X' N ga, Keep.of_wr W, (Ary.wr ⟨cl, A1, r⟩ W hj.2).congr (fun i _ => by unfold updN; split <;> rfl), st⟩
theorem own_stB (X : Stand p l e R s m args below meth c T locs k n) (hx : p.tables.exec = Jvm.exec) (hZ : Z.Warmed39 s.vm) (eT : T.heap = h) (N : Fr n0 locs) {G : Nat → Int32} (A : Ary Z h a .byte len (fun i => .int (G i))) (ga : n0 ≤ a) {j x : Int32} (hj : InB j len) {rest : List Value} (hg : g.method = m) (hs : g.stack = .int x :: .int j :: .ref a :: rest) (hd : decode c.code g.pc = .ok (.bastore, 1)) :
    ∃ (T' : State) (h' : Heap) (locs' : List Loc), Stand p l e R s m args below meth c T' locs' k n ∧ T'.heap = h' ∧ Fr n0 locs' ∧ Keep h h' [a] ∧ Ary Z h' a .byte len (fun i => .int (updN G j.toNatClampNeg (nar .byte x) i)) ∧ ∀ t, Steps p.tables e below (T'.setTop { g with pc := g.pc + 1, stack := rest }) t → Steps p.tables e below (T.setTop g) t := by
  obtain ⟨cl, A1, r⟩ := A
  obtain ⟨T', h', X', e', W, st⟩ := stB X hx hZ eT A1 (not_in hj r.1) hg hs hd
  exact ⟨T', h', _, X', e', Fr.snoc X' N ga, Keep.of_wr W, (Ary.wr ⟨cl, A1, r⟩ W hj.2).congr (fun i _ => by unfold updN; split <;> rfl), st⟩
/-- newarray of a length that is not negative and at most cap -/
theorem own_new (X : Stand p l e R s m args below meth c T locs k n) (hx : p.tables.exec = Jvm.exec) (hZ : Z.Warmed39 s.vm) {aty : ArrayType} (w : (Jvm.Cond.arrayClass (newarray.typeOf aty)).before a0 Z = true) (eT : T.heap = h) (hg : g.method = m) (hd : decode c.code g.pc = .ok (.newarray aty, 2)) {z : Int32} {rest : List Value} (hs : g.stack = .int z :: rest)
    (hn : ¬ z < 0) {cap : Nat} (hcap : z.toNatClampNeg ≤ cap) (hb : cap * 8 ≤ 536870912) (hc : k + 1 ≤ R.cells) (hl : n + cap ≤ R.slots) :
    ∃ (T' : State) (h' : Heap) (a : Addr), Stand p l e R s m args below meth c T' locs (k + 1) (n + cap) ∧ T'.heap = h' ∧ a = h.size ∧ Keep h h' [] ∧ Ary Z h' a (newarray.typeOf aty) z.toNatClampNeg (fun _ => defaultValue (newarray.typeOf aty)) ∧
      ∀ t, Steps p.tables e below (T'.setTop { g with pc := g.pc + 2, stack := .ref a :: rest }) t → Steps p.tables e below (T.setTop g) t := by
  obtain ⟨T', h', cA, X', e', E, A, st⟩ := newP X hx hZ w eT hg hd hs hn hcap hb hc hl
  refine ⟨T', h', _, X', e', rfl, keep_ext E, ⟨_, A, sz_new _ _ _, ?_, fun i hi => ?_⟩, st⟩
  · exact (back32 hn).2
  · simp [newA, hi]
/-- an object's field written: the heap, what is kept, the field -/
theorem own_putF (X : Stand p l e R s m args below meth c T locs k n) (hx : p.tables.exec = Jvm.exec) (hZ : Z.Warmed39 s.vm) {own O nm d C : String} {index kk : Nat} {fty : FieldType} (hown : s.vm.findClass own = some m.cls) (w : (Jvm.Cond.fieldLink own index O nm d).before a0 Z = true)
    (eT : T.heap = h) (N : Fr n0 locs) {u v : Value} (F : Fld Z h a O nm d u) (E : Exa Z h a C) (ga : n0 ≤ a) (lw : (Jvm.Cond.lays C O nm d).before a0 Z = true ∨ ((Jvm.Cond.laysFinal C O nm d).before a0 Z = true ∧ own = O ∧ meth.name = "<init>")) (wi : (Jvm.Cond.instantiable C kk).before a0 Z = true)
    (hty : parseFieldDescriptor d = some fty) (hn : narrow fty v = v) (hf : fits fty v = true) {rest : List Value} (hg : g.method = m) (hs : g.stack = v :: .ref a :: rest) (hd : decode c.code g.pc = .ok (.putfield index, 3)) :
    ∃ (T' : State) (h' : Heap) (locs' : List Loc), Stand p l e R s m args below meth c T' locs' k n ∧ T'.heap = h' ∧ Fr n0 locs' ∧ Wr h h' a (slotOf Z O nm d) v ∧ Fld Z h' a O nm d v ∧ ∀ t, Steps p.tables e below (T'.setTop { g with pc := g.pc + 3, stack := rest }) t → Steps p.tables e below (T.setTop g) t := by
  obtain ⟨T', h', X', e', W, st⟩ := putF X hx hZ hown (host := "") (Or.inl w) Via.refl eT F E lw wi (ty := fty) hty hn hf hg hs hd
  exact ⟨T', h', _, X', e', Fr.snoc X' N ga, W, F.same W, st⟩
theorem Exa.neS {C : String} (F : Exa Z h a C) (q : b = h.size) : a ≠ b := by
  have r := Exa.lt F; intro z; rw [z, q] at r; exact Nat.lt_irrefl _ r
theorem Ary.neS (F : Ary Z h a ty len f) (q : b = h.size) : a ≠ b := by
  have r := Ary.lt F; intro z; rw [z, q] at r; exact Nat.lt_irrefl _ r
end OwnHeap
end Jvm.RoadKit
namespace Jvm.RoadKit
open Sem ClassFile Op Lib Jvm.Stand Jvm.Free Jvm.LawKit
section OwnNum
theorem i32lt (x y : Int32) : x < y ↔ x.toInt < y.toInt := Int32.lt_iff_toInt_lt
theorem i32eq (x y : Int32) : x = y ↔ x.toInt = y.toInt := Int32.toInt_inj.symm
theorem i64lt (x y : Int64) : x < y ↔ x.toInt < y.toInt := Int64.lt_iff_toInt_lt
theorem i64eq (x y : Int64) : x = y ↔ x.toInt = y.toInt := Int64.toInt_inj.symm
theorem nar0 : nar .boolean 0 = 0 := by decide
theorem nar1 : nar .boolean 1 = 1 := by decide
theorem narI (P : Prop) [Decidable P] : nar .boolean (if P then 1 else 0) = if P then 1 else 0 := by split <;> decide
theorem ushr_pos {x y : Int32} (hx : 0 ≤ x.toInt) {k : Nat} (hn : (y &&& 31).toUInt32.toNat = k) (hk : k < 32) : (XT.ushr x y).toInt = x.toInt / 2 ^ k :=
  Jvm.Kit.i32_iushr (Jvm.Kit.i32_nonneg.mpr hx) hn hk
theorem ushr_nat (x y : Int32) {k : Nat} (hn : (y &&& 31).toUInt32.toNat = k) (h1 : 0 < k) (hk : k < 32) : (XT.ushr x y).toInt = (x.toBitVec.toNat / 2 ^ k : Nat) := by
  have e1 : (XT.ushr x y).toBitVec.toNat = x.toBitVec.toNat / 2 ^ k := by
    show (x.toUInt32 >>> (y &&& 31).toUInt32).toNat = _
    rw [UInt32.toNat_shiftRight, hn, Nat.mod_eq_of_lt hk, Nat.shiftRight_eq_div_pow]
    rfl
  have e2 := x.toBitVec.isLt
  have e3 : x.toBitVec.toNat / 2 ^ k < 2 ^ 31 := by
    apply Nat.div_lt_of_lt_mul
    calc x.toBitVec.toNat < 2 ^ 32 := e2
      _ ≤ 2 ^ k * 2 ^ 31 := by rw [← Nat.pow_add]; exact Nat.pow_le_pow_right (by omega) (by omega)
  show (XT.ushr x y).toBitVec.toInt = _
  rw [BitVec.toInt_eq_toNat_of_lt (by rw [e1]; omega), e1]
theorem inb_of_toInt {j : Int32} {n : Nat} (h1 : 0 ≤ j.toInt) (h2 : j.toInt < n) : InB j n := by
  refine ⟨?_, ?_⟩
  · rw [i32lt]; show ¬ j.toInt < 0; omega
  · simp only [Int32.toNatClampNeg]; omega
theorem or32_nat (n : Nat) : n ||| 32 = n + (if n % 64 < 32 then 32 else 0) := by
  have h1 : (n ||| 32) % 2 ^ 6 = (n % 2 ^ 6) ||| (32 % 2 ^ 6) := Nat.or_mod_two_pow
  have h2 : (n ||| 32) / 2 ^ 6 = n / 2 ^ 6 := by
    rw [← Nat.shiftRight_eq_div_pow, Nat.shiftRight_or_distrib, ← Nat.shiftRight_eq_div_pow]
    simp
  have h3 : ∀ r : Fin 64, r.val ||| 32 = if r.val < 32 then r.val + 32 else r.val := by decide
  have h4 := h3 ⟨n % 64, Nat.mod_lt _ (by omega)⟩
  simp only at h4
  have h5 : (n % 2 ^ 6) ||| (32 % 2 ^ 6) = (n % 64) ||| 32 := rfl
  rw [h5, h4] at h1
  split at h1 <;> split <;> omega
theorem or32 (c : Int32) : (c ||| 32).toInt = c.toInt + (if c.toInt % 64 < 32 then 32 else 0) := by
  have e1 : (c ||| 32).toBitVec.toNat = c.toBitVec.toNat ||| 32 := by simp [BitVec.toNat_or]
  have e2 : c.toInt = c.toBitVec.toInt := rfl
  have e3 : (c ||| 32).toInt = (c ||| 32).toBitVec.toInt := rfl
  have e4 := c.toBitVec.isLt
  have e5 := (c ||| 32).toBitVec.isLt
  rw [e2, e3, BitVec.toInt_eq_toNat_cond, BitVec.toInt_eq_toNat_cond, e1, or32_nat]
  rw [e1, or32_nat] at e5
  split at e5 <;> split <;> split <;> split <;> omega
theorem i2c_toInt (x : Int32) : (x.toUInt32.toUInt16.toUInt32.toInt32).toInt = x.toInt % 65536 := by
  have e1 : (x.toUInt32.toUInt16.toUInt32.toInt32).toBitVec.toNat = x.toBitVec.toNat % 65536 := by
    show (x.toUInt32.toUInt16.toUInt32).toNat = _
    simp
    rfl
  have e2 := x.toBitVec.isLt
  have e3 : x.toInt = x.toBitVec.toInt := rfl
  have e4 : (x.toUInt32.toUInt16.toUInt32.toInt32).toInt = (x.toUInt32.toUInt16.toUInt32.toInt32).toBitVec.toInt := rfl
  rw [e3, e4, BitVec.toInt_eq_toNat_cond, BitVec.toInt_eq_toNat_cond, e1]
  split <;> split <;> omega
theorem mulbd {a b : Int} (h1 : 0 ≤ a) (h2 : a ≤ 2147483648) (h3 : 0 ≤ b) (h4 : b ≤ 2147483648) : 0 ≤ a * b ∧ a * b ≤ 4611686018427387904 := by
  refine ⟨Int.mul_nonneg h1 h3, ?_⟩
  have h : a * b ≤ 2147483648 * 2147483648 := Int.mul_le_mul h2 h4 h3 (by omega)
  omega
theorem mul64g {x y : Int64} (h1 : 0 ≤ x.toInt) (h2 : x.toInt ≤ 2147483648) (h3 : 0 ≤ y.toInt) (h4 : y.toInt ≤ 2147483648) : (x * y).toInt = x.toInt * y.toInt := by
  obtain ⟨b1, b2⟩ := mulbd h1 h2 h3 h4
  exact Jvm.Kit.i64_mul (by omega) (by omega)
theorem mul64 {x y : Int32} (h1 : 0 ≤ x.toInt) (h3 : 0 ≤ y.toInt) : (x.toInt64 * y.toInt64).toInt = x.toInt * y.toInt := by
  have e1 := Jvm.Kit.i64_of_i32 x
  have e2 := Jvm.Kit.i64_of_i32 y
  have b1 := Int32.toInt_lt x
  have b2 := Int32.toInt_lt y
  rw [mul64g (by omega) (by omega) (by omega) (by omega), e1, e2]
/-- the quotient q of a by b: b * q ≤ a < b * q + b -/
theorem quot {a b : Int} (hb : 0 < b) : b * (a / b) ≤ a ∧ a < b * (a / b) + b := by
  have h1 := Int.emod_def a b
  have h2 := Int.emod_nonneg a (show b ≠ 0 by omega)
  have h3 := Int.emod_lt_of_pos a hb
  omega
theorem div64 {x y : Int64} (h1 : 0 ≤ x.toInt) (h2 : 0 < y.toInt) : (x / y).toInt = x.toInt / y.toInt := by
  rw [Jvm.Kit.i64_div (by omega), Int.tdiv_eq_ediv_of_nonneg h1]
theorem mask31 (x : Int32) : (x &&& 2147483647).toInt = x.toInt % 2147483648 := by
  have := Jvm.Kit.i32_mask x 2147483647 (k := 31) (by decide) (by decide)
  omega
theorem rem32 {x y : Int32} (h : 0 ≤ x.toInt) (h2 : 0 < y.toInt) : 0 ≤ (x % y).toInt ∧ (x % y).toInt < y.toInt := by
  rw [Jvm.Kit.i32_rem_nonneg h]
  exact ⟨Int.emod_nonneg _ (by omega), Int.emod_lt_of_pos _ h2⟩
end OwnNum
end Jvm.RoadKit
namespace Jvm.RoadKit
open Sem ClassFile Op Lib Jvm.Stand Jvm.Free Jvm.LawKit
section OwnBits
theorem byte255 (y : Int32) : (nar .byte (y.toInt8.toInt32) &&& 255).toInt = y.toInt % 256 := by
  have h1 := Jvm.Kit.i32_mask (nar .byte (y.toInt8.toInt32)) 255 (k := 8) (by decide) (by decide)
  have h2 : (nar .byte (y.toInt8.toInt32)).toInt = (y.toInt.bmod 256).bmod 256 := by
    show ((y.toInt8.toInt32).toInt8.toInt32).toInt = _
    rw [Int8.toInt_toInt32, Int32.toInt_toInt8, Int8.toInt_toInt32, Int32.toInt_toInt8]
  rw [h1, h2]
  have h3 : ∀ z : Int, z.bmod 256 % 256 = z % 256 := fun z => Int.bmod_emod
  have h4 : (2 : Int) ^ 8 = 256 := rfl
  rw [h4, h3, h3]
theorem natOfI {x : Int32} (h : 0 ≤ x.toInt) : x.toBitVec.toNat = x.toInt.toNat := by
  have e : x.toInt = x.toBitVec.toInt := rfl
  have e2 := x.toBitVec.isLt
  rw [e, BitVec.toInt_eq_toNat_cond] at h ⊢
  split at h <;> split <;> omega
theorem ofNat31 {x : Int32} {n : Nat} (h : x.toBitVec.toNat = n) (h2 : n < 2 ^ 31) : x.toInt = n := by
  have e : x.toInt = x.toBitVec.toInt := rfl
  rw [e, BitVec.toInt_eq_toNat_of_lt (by rw [h]; omega), h]
theorem or_sum {a b : Int32} {k g : Nat} (ha : 0 ≤ a.toInt) (ha2 : a.toInt < 2 ^ k) (hb : b.toInt = (2 ^ k * g : Nat)) (hs : 2 ^ k * g + a.toInt.toNat < 2 ^ 31) : (a ||| b).toInt = a.toInt + b.toInt ∧ (b ||| a).toInt = a.toInt + b.toInt := by
  have e1 : a.toBitVec.toNat = a.toInt.toNat := natOfI ha
  have e2 : b.toBitVec.toNat = 2 ^ k * g := by rw [natOfI (by omega), hb]; exact Int.toNat_natCast _
  have hlt : a.toInt.toNat < 2 ^ k := by
    have : ((2 ^ k : Nat) : Int) = (2 : Int) ^ k := by simp
    omega
  have e3 := Nat.two_pow_add_eq_or_of_lt hlt g
  constructor
  · have e4 : (a ||| b).toBitVec.toNat = 2 ^ k * g + a.toInt.toNat := by
      show (a.toBitVec ||| b.toBitVec).toNat = _
      rw [BitVec.toNat_or, e1, e2, Nat.or_comm, ← e3]
    rw [ofNat31 e4 hs]; omega
  · have e4 : (b ||| a).toBitVec.toNat = 2 ^ k * g + a.toInt.toNat := by
      show (b.toBitVec ||| a.toBitVec).toNat = _
      rw [BitVec.toNat_or, e1, e2, ← e3]
    rw [ofNat31 e4 hs]; omega
theorem or128 {x : Int32} (h : 0 ≤ x.toInt) (h2 : x.toInt < 128) : (x ||| 128).toInt = x.toInt + 128 ∧ (128 ||| x).toInt = x.toInt + 128 := by
  have a : (128 : Int32).toInt = 128 := rfl
  have := or_sum (a := x) (b := 128) (k := 7) (g := 1) h (by omega) (by rw [a]; rfl) (by omega)
  rw [a] at this; exact this
/-- a group of seven bits laid above what is there -/
theorem acc {a g n : Int32} {k : Nat} (hn : (n.toBitVec.smod 32).toNat = k) (ha : 0 ≤ a.toInt) (ha2 : a.toInt < 2 ^ k) (hg : 0 ≤ g.toInt) (hs : g.toInt * 2 ^ k + a.toInt < 2 ^ 31) : (a ||| (g <<< n)).toInt = a.toInt + g.toInt * 2 ^ k := by
  have p : (0 : Int) < 2 ^ k := Int.pow_pos (by omega)
  have q : 0 ≤ g.toInt * 2 ^ k := Int.mul_nonneg hg (by omega)
  have e1 : (g <<< n).toInt = g.toInt * 2 ^ k := Jvm.Kit.i32_shl g n hn (by omega) (by omega)
  have e2 : (g <<< n).toInt = (2 ^ k * g.toInt.toNat : Nat) := by
    rw [e1, Int.natCast_mul, Int.toNat_of_nonneg hg, Int.mul_comm, Int.natCast_pow]; rfl
  have := (or_sum (a := a) (b := g <<< n) (k := k) (g := g.toInt.toNat) ha ha2 e2 (by have := e1.symm.trans e2; omega)).1
  rw [this, e1]
theorem and_not0 (x : Int64) : x &&& ((0 : Int64) ^^^ (-1)) = x := by
  apply Int64.toBitVec_inj.mp
  apply BitVec.eq_of_getLsbD_eq
  intro i hi
  have : (-1 : Int64).toBitVec = BitVec.allOnes 64 := by decide
  simp [this, hi]
theorem and_not2 (x a b : Int64) : (x &&& (a ^^^ (-1))) &&& (b ^^^ (-1)) = x &&& ((a ||| b) ^^^ (-1)) := by
  apply Int64.toBitVec_inj.mp
  apply BitVec.eq_of_getLsbD_eq
  intro i hi
  have : (-1 : Int64).toBitVec = BitVec.allOnes 64 := by decide
  simp [this, hi]
  exact Bool.and_assoc _ _ _
theorem clamp_eq {a b : Int32} (ha : 0 ≤ a.toInt) (hb : 0 ≤ b.toInt) : a.toNatClampNeg = b.toNatClampNeg ↔ a = b := by
  rw [i32eq]; simp only [Int32.toNatClampNeg]; omega
theorem mask63 (v : Int32) : ((v &&& 63).toInt64 &&& 63) = (v.toInt64 &&& 63) := by
  have h1 := Jvm.Kit.i64_mask (v &&& 63).toInt64 63 (k := 6) (by decide) (by decide)
  have h2 := Jvm.Kit.i64_mask v.toInt64 63 (k := 6) (by decide) (by decide)
  have h3 := Jvm.Kit.i32_mask v 63 (k := 6) (by decide) (by decide)
  rw [Jvm.Kit.i64_of_i32] at h1 h2
  rw [i64eq, h1, h2, h3]; omega
theorem charBack {x : Int32} (h : 0 ≤ x.toInt) (h2 : x.toInt < 65536) : nar .char (x.toUInt32.toUInt16.toUInt32.toInt32) = x := by
  have e1 : (nar .char (x.toUInt32.toUInt16.toUInt32.toInt32)).toInt = (x.toUInt32.toUInt16.toUInt32.toInt32).toInt % 65536 := i2c_toInt _
  rw [i32eq, e1, i2c_toInt]; omega
end OwnBits
end Jvm.RoadKit
namespace Jvm.Pilot.@@N@@
open Jvm Jvm.ClassFile Sem Op Lib Jvm.Free Jvm.Stand Jvm.LawKit Jvm.RoadKit Bundle Jvm.Pilot.@@N@@.Jvm.D
theorem d1_0 : decode prog_21_method_1_code 0 = .ok (.aload_n 0, 1) := by decide +kernel
theorem d1_1 : decode prog_21_method_1_code 1 = .ok (.invokespecial 1, 3) := by decide +kernel
theorem d1_4 : decode prog_21_method_1_code 4 = .ok (.aload_n 0, 1) := by decide +kernel
theorem d1_5 : decode prog_21_method_1_code 5 = .ok (.aload_n 1, 1) := by decide +kernel
theorem d1_6 : decode prog_21_method_1_code 6 = .ok (.putfield 7, 3) := by decide +kernel
theorem d1_9 : decode prog_21_method_1_code 9 = .ok (.return_, 1) := by decide +kernel
theorem pn_1 : plainName "com/example/faden/faden/rank/RecordReader" = true := by first | (simp [plainName, overriddenIn]; done) | decide +kernel
theorem ef_1 (m : MethodId) (o0 : Addr) (o1 : Addr) : entryFrame m #[(.ref o0), (.ref o1)] 2 = mkF m 0 #[.val (.ref o0), .val (.ref o1)] [] := by first | (simp [entryFrame, mkF, argsToLocals, Value.category]; done) | rfl
def Q1 (Z : State) (o0 : Addr) (o1 : Addr) (h0 : Heap) (n0 : Nat) : Option Value → Heap → List Loc → Prop := fun v h L => v = none ∧ Fr n0 L ∧ Keep h0 h [o0] ∧ Exa Z h o0 "com/example/faden/faden/rank/RecordReader" ∧ Fld Z h o0 "com/example/faden/faden/rank/RecordReader" "record" "[B" (.ref o1) ∧ Fld Z h o0 "com/example/faden/faden/rank/RecordReader" "at" "I" (.int (0 : Int32))
set_option maxRecDepth 65536 in
set_option maxHeartbeats 40000000 in
theorem j1 {p : Program} {l : Launch} {e : Env} {s : State} {m : MethodId} {args : Array Value} {below : List Frame} {meth : Method} {c : Code} {T0 : State} {locs : List Loc} {Z : State} {a0 : Array Value} {h0 : Heap} {n0 : Nat}
    (X0 : Stand p l e ({ frames := 1, cells := 0, slots := 0, locals := 12 } : Room) s m args below meth c T0 locs 0 0) (hx : p.tables.exec = Jvm.exec) (hZ : Z.Warmed39 s.vm) (hw : ∀ d ∈ tables_1, d.before a0 Z = true) (hby : c.code = prog_21_method_1_code) (hml : c.maxLocals = 2) (hown : s.vm.findClass "com/example/faden/faden/rank/RecordReader" = some m.cls) (hnm : meth.name = "<init>") (e0 : T0.heap = h0) (N0 : Fr n0 locs) (Z0 : n0 ≤ h0.size) (o0 : Addr) (o1 : Addr) (E_o0 : Exa Z h0 o0 "com/example/faden/faden/rank/RecordReader") (g_o0 : n0 ≤ o0) (F_record_o0 : Fld Z h0 o0 "com/example/faden/faden/rank/RecordReader" "record" "[B" .null) (F_at_o0 : Fld Z h0 o0 "com/example/faden/faden/rank/RecordReader" "at" "I" (.int (0 : Int32))) :
    OwnFin X0 none (Q1 Z o0 o1 h0 n0) ({ frames := 1, cells := 0, slots := 0, locals := 12 } : Room).cells ({ frames := 1, cells := 0, slots := 0, locals := 12 } : Room).slots (mkF m 0 #[.val (.ref o0), .val (.ref o1)] []) := by
  refine OwnFin.step (g' := (mkF m 1 #[.val (.ref o0), .val (.ref o1)] [(.ref o0)])) X0 (fun t k => XS.aloadN X0.here hx rfl (hb hby d1_0) rfl rfl k) ?_
  obtain ⟨T1, X1, e1, st1⟩ := initO X0 hx hZ hown (hw _ (wm 7 rfl)) (hw _ (wm 8 rfl)) (hw _ (wm 9 rfl)) e0 (g := (mkF m 1 #[.val (.ref o0), .val (.ref o1)] [(.ref o0)])) rfl (by rw [hml]; rfl) rfl (hb hby d1_1) (by decide) (W := 0) (by show 2 * 0 + _ ≤ _; exact Nat.le_of_eq rfl) (by decide)
  refine OwnFin.step (g' := (mkF m 4 #[.val (.ref o0), .val (.ref o1)] [])) X1 (fun t k => st1 _ k) ?_
  refine OwnFin.step (g' := (mkF m 5 #[.val (.ref o0), .val (.ref o1)] [(.ref o0)])) X1 (fun t k => XS.aloadN X1.here hx rfl (hb hby d1_4) rfl rfl k) ?_
  refine OwnFin.step (g' := (mkF m 6 #[.val (.ref o0), .val (.ref o1)] [(.ref o1), (.ref o0)])) X1 (fun t k => XS.aloadN X1.here hx rfl (hb hby d1_5) rfl rfl k) ?_
  obtain ⟨T2, h2, L2, X2, e2, N2, W2, F2, st2⟩ := own_putF X1 hx hZ hown (hw _ (wm 10 rfl)) e1 N0 F_record_o0 E_o0 g_o0 (Or.inr ⟨(hw _ (wm 11 rfl)), rfl, hnm⟩) (hw _ (wm 2 rfl)) (fty := (.array .byte)) (by decide) rfl rfl (g := (mkF m 6 #[.val (.ref o0), .val (.ref o1)] [(.ref o1), (.ref o0)])) rfl rfl (hb hby d1_6)
  have K2 := Keep.of_wr W2
  have Z2 := Nat.le_trans Z0 K2.1
  have S2 := Nat.le_trans (Nat.le_refl h0.size) K2.1
  have F3 := Fld.other W2 F_at_o0 (Or.inr (slot_ne (Or.inl (hw _ (wm 18 rfl))) (Or.inr (hw _ (wm 11 rfl))) (by decide) (t := .int) (t' := (.array .byte)) (by decide) (by decide)))
  have E4 := Exa.wr W2 E_o0
  refine OwnFin.step (g' := (mkF m 9 #[.val (.ref o0), .val (.ref o1)] [])) X2 (fun t k => st2 _ k) ?_
  refine OwnFin.retVoid X2 (hb hby d1_9) (by decide) (by decide) ?_
  rw [e2]
  exact ⟨rfl, N2, (Keep.trans (Keep.refl h0 [o0]) K2 (allS (Or.inl (List.mem_of_getElem? (i := 0) rfl)) all0)), E4, F2, F3⟩
set_option maxRecDepth 65536 in
set_option maxHeartbeats 40000000 in
theorem rm1 (l : Launch) (Z : State) (a0 : Array Value) (hw : ∀ d ∈ tables_1, d.before a0 Z = true) (ws : List Jvm.Cond) (o0 : Addr) (o1 : Addr) (h0 : Heap) (n0 : Nat) (Z0 : n0 ≤ h0.size) (E_o0 : Exa Z h0 o0 "com/example/faden/faden/rank/RecordReader") (g_o0 : n0 ≤ o0) (F_record_o0 : Fld Z h0 o0 "com/example/faden/faden/rank/RecordReader" "record" "[B" .null) (F_at_o0 : Fld Z h0 o0 "com/example/faden/faden/rank/RecordReader" "at" "I" (.int (0 : Int32))) :
    MetFree l (⟨"com/example/faden/faden/rank/RecordReader", "<init>", "([B)V"⟩ : MethodName) (head1 (Jvm.Cond.code (⟨"com/example/faden/faden/rank/RecordReader", "<init>", "([B)V"⟩ : MethodName) prog_21_method_1_code 2 none :: ws) ({ frames := 1, cells := 0, slots := 0, locals := 12 } : Room)) (fun a U => a = #[(.ref o0), (.ref o1)] ∧ Z.Warmed39 U.vm ∧ U.heap = h0) (fun _ _ _ _ _ => True) (fun _ U o U' => ∃ v L, o = .returned v ∧ (Q1 Z o0 o1 h0 n0) v U'.heap L ∧ FrameEnd U o U' L ({ frames := 1, cells := 0, slots := 0, locals := 12 } : Room).cells ({ frames := 1, cells := 0, slots := 0, locals := 12 } : Room).slots) :=
  own_met (ret := none) (Q := (Q1 Z o0 o1 h0 n0)) (plainFor_of_name pn_1) (fun m => ef_1 m o0 o1) (fun p e s m below meth c s₁ X hx hby hml hown hnm hZ e0 => j1 X hx hZ hw hby hml hown hnm e0 (Fr.nil n0) Z0 o0 o1 E_o0 g_o0 F_record_o0 F_at_o0)
theorem d3_0 : decode prog_21_method_2_code 0 = .ok (.aload_n 0, 1) := by decide +kernel
theorem d3_1 : decode prog_21_method_2_code 1 = .ok (.getfield 13, 3) := by decide +kernel
theorem d3_4 : decode prog_21_method_2_code 4 = .ok (.aload_n 0, 1) := by decide +kernel
theorem d3_5 : decode prog_21_method_2_code 5 = .ok (.getfield 7, 3) := by decide +kernel
theorem d3_8 : decode prog_21_method_2_code 8 = .ok (.arraylength, 1) := by decide +kernel
theorem d3_9 : decode prog_21_method_2_code 9 = .ok (.if_icmp .ne 7, 3) := by decide +kernel
theorem d3_12 : decode prog_21_method_2_code 12 = .ok (.iconst 1, 1) := by decide +kernel
theorem d3_13 : decode prog_21_method_2_code 13 = .ok (.goto 4, 3) := by decide +kernel
theorem d3_16 : decode prog_21_method_2_code 16 = .ok (.iconst 0, 1) := by decide +kernel
theorem d3_17 : decode prog_21_method_2_code 17 = .ok (.ireturn, 1) := by decide +kernel
theorem pn_3 : plainName "com/example/faden/faden/rank/RecordReader" = true := by first | (simp [plainName, overriddenIn]; done) | decide +kernel
theorem ef_3 (m : MethodId) (o0 : Addr) : entryFrame m #[(.ref o0)] 1 = mkF m 0 #[.val (.ref o0)] [] := by first | (simp [entryFrame, mkF, argsToLocals, Value.category]; done) | rfl
def v3_17 (w_at : Int32) (ln : Nat) : Int32 := (if w_at = (ln).toInt32 then (1 : Int32) else (0 : Int32))
def Q3 (Z : State) (o0 : Addr) (ln : Nat) (G : Nat → Int32) (w_record : Addr) (w_at : Int32) (h0 : Heap) (n0 : Nat) : Option Value → Heap → List Loc → Prop := fun v h L => v = some (.int (nar .boolean (v3_17 w_at ln))) ∧ Fr n0 L ∧ Keep h0 h []
set_option maxRecDepth 65536 in
set_option maxHeartbeats 40000000 in
theorem j3 {p : Program} {l : Launch} {e : Env} {s : State} {m : MethodId} {args : Array Value} {below : List Frame} {meth : Method} {c : Code} {T0 : State} {locs : List Loc} {Z : State} {a0 : Array Value} {h0 : Heap} {n0 : Nat}
    (X0 : Stand p l e ({ frames := 0, cells := 0, slots := 0, locals := 0 } : Room) s m args below meth c T0 locs 0 0) (hx : p.tables.exec = Jvm.exec) (hZ : Z.Warmed39 s.vm) (hw : ∀ d ∈ tables_1, d.before a0 Z = true) (hby : c.code = prog_21_method_2_code) (hml : c.maxLocals = 1) (hown : s.vm.findClass "com/example/faden/faden/rank/RecordReader" = some m.cls) (hnm : meth.name = "atEnd") (e0 : T0.heap = h0) (N0 : Fr n0 locs) (Z0 : n0 ≤ h0.size) (o0 : Addr) (ln : Nat) (G : Nat → Int32) (w_record : Addr) (w_at : Int32) (E_o0 : Exa Z h0 o0 "com/example/faden/faden/rank/RecordReader") (g_o0 : n0 ≤ o0) (F_record_o0 : Fld Z h0 o0 "com/example/faden/faden/rank/RecordReader" "record" "[B" (.ref w_record)) (F_at_o0 : Fld Z h0 o0 "com/example/faden/faden/rank/RecordReader" "at" "I" (.int w_at)) (A_w_record : Ary Z h0 w_record .byte ln (fun i => .int (G i))) (ne_o0__w_record : o0 ≠ w_record) :
    OwnFin X0 (some .boolean) (Q3 Z o0 ln G w_record w_at h0 n0) ({ frames := 0, cells := 0, slots := 0, locals := 0 } : Room).cells ({ frames := 0, cells := 0, slots := 0, locals := 0 } : Room).slots (mkF m 0 #[.val (.ref o0)] []) := by
  refine OwnFin.step (g' := (mkF m 1 #[.val (.ref o0)] [(.ref o0)])) X0 (fun t k => XS.aloadN X0.here hx rfl (hb hby d3_0) rfl rfl k) ?_
  obtain ⟨T1, X1, e1, st1⟩ := getF X0 hx hZ hown (host := "") (Or.inl (hw _ (wm 17 rfl))) Via.refl e0 F_at_o0 (g := (mkF m 1 #[.val (.ref o0)] [(.ref o0)])) rfl rfl (hb hby d3_1)
  refine OwnFin.step (g' := (mkF m 4 #[.val (.ref o0)] [(.int w_at)])) X1 (fun t k => st1 _ k) ?_
  refine OwnFin.step (g' := (mkF m 5 #[.val (.ref o0)] [(.ref o0), (.int w_at)])) X1 (fun t k => XS.aloadN X1.here hx rfl (hb hby d3_4) rfl rfl k) ?_
  obtain ⟨T2, X2, e2, st2⟩ := getF X1 hx hZ hown (host := "") (Or.inl (hw _ (wm 10 rfl))) Via.refl e1 F_record_o0 (g := (mkF m 5 #[.val (.ref o0)] [(.ref o0), (.int w_at)])) rfl rfl (hb hby d3_5)
  refine OwnFin.step (g' := (mkF m 8 #[.val (.ref o0)] [(.ref w_record), (.int w_at)])) X2 (fun t k => st2 _ k) ?_
  refine OwnFin.step (g' := (mkF m 9 #[.val (.ref o0)] [(.int (ln).toInt32), (.int w_at)])) X2 (fun t k => own_len X2 hx hZ e2 A_w_record (g := (mkF m 8 #[.val (.ref o0)] [(.ref w_record), (.int w_at)])) rfl rfl (hb hby d3_8) _ k) ?_
  refine OwnFin.step (g' := (mkF m 17 #[.val (.ref o0)] [(.int (v3_17 w_at ln))])) X2 (fun t k => ?_) ?_
  · show Steps p.tables e below (T2.setTop (mkF m 9 #[.val (.ref o0)] [(.int (ln).toInt32), (.int w_at)])) t
    by_cases hc3 : w_at = (ln).toInt32
    · skip
      refine XS.icmpNo X2.here hx rfl (hb hby d3_9) rfl (teq hc3).2 ?_
      show Steps p.tables e below (T2.setTop (mkF m 12 #[.val (.ref o0)] [])) t
      refine XS.iconst X2.here hx rfl (hb hby d3_12) ?_
      show Steps p.tables e below (T2.setTop (mkF m 13 #[.val (.ref o0)] [(.int (1 : Int32))])) t
      refine XS.goto X2.here hx rfl (pc0 := 13) (pc' := 17) rfl (hb hby d3_13) (by decide) (by decide) ?_
      show Steps p.tables e below (T2.setTop (mkF m 17 #[.val (.ref o0)] [(.int (1 : Int32))])) t
      have q4 : (v3_17 w_at ln) = (1 : Int32) := by
        show (if w_at = (ln).toInt32 then (1 : Int32) else (0 : Int32)) = (1 : Int32)
        simp only [if_pos hc3]
      rw [q4] at k
      exact k
    · skip
      refine XS.icmpYes X2.here hx rfl (pc0 := 9) (pc' := 16) rfl (hb hby d3_9) rfl (feq hc3).2 (by decide) (by decide) ?_
      show Steps p.tables e below (T2.setTop (mkF m 16 #[.val (.ref o0)] [])) t
      refine XS.iconst X2.here hx rfl (hb hby d3_16) ?_
      show Steps p.tables e below (T2.setTop (mkF m 17 #[.val (.ref o0)] [(.int (0 : Int32))])) t
      have q5 : (v3_17 w_at ln) = (0 : Int32) := by
        show (if w_at = (ln).toInt32 then (1 : Int32) else (0 : Int32)) = (0 : Int32)
        simp only [if_neg hc3]
      rw [q5] at k
      exact k
  refine OwnFin.retNar X2 (by simp) (hb hby d3_17) (by decide) (by decide) ?_
  rw [e2]
  exact ⟨rfl, N0, (Keep.refl h0 [])⟩
set_option maxRecDepth 65536 in
set_option maxHeartbeats 40000000 in
theorem rm3 (l : Launch) (Z : State) (a0 : Array Value) (hw : ∀ d ∈ tables_1, d.before a0 Z = true) (ws : List Jvm.Cond) (o0 : Addr) (ln : Nat) (G : Nat → Int32) (w_record : Addr) (w_at : Int32) (h0 : Heap) (n0 : Nat) (Z0 : n0 ≤ h0.size) (E_o0 : Exa Z h0 o0 "com/example/faden/faden/rank/RecordReader") (g_o0 : n0 ≤ o0) (F_record_o0 : Fld Z h0 o0 "com/example/faden/faden/rank/RecordReader" "record" "[B" (.ref w_record)) (F_at_o0 : Fld Z h0 o0 "com/example/faden/faden/rank/RecordReader" "at" "I" (.int w_at)) (A_w_record : Ary Z h0 w_record .byte ln (fun i => .int (G i))) (ne_o0__w_record : o0 ≠ w_record) :
    MetFree l (⟨"com/example/faden/faden/rank/RecordReader", "atEnd", "()Z"⟩ : MethodName) (head1 (Jvm.Cond.code (⟨"com/example/faden/faden/rank/RecordReader", "atEnd", "()Z"⟩ : MethodName) prog_21_method_2_code 1 (some .boolean) :: ws) ({ frames := 0, cells := 0, slots := 0, locals := 0 } : Room)) (fun a U => a = #[(.ref o0)] ∧ Z.Warmed39 U.vm ∧ U.heap = h0) (fun _ _ _ _ _ => True) (fun _ U o U' => ∃ v L, o = .returned v ∧ (Q3 Z o0 ln G w_record w_at h0 n0) v U'.heap L ∧ FrameEnd U o U' L ({ frames := 0, cells := 0, slots := 0, locals := 0 } : Room).cells ({ frames := 0, cells := 0, slots := 0, locals := 0 } : Room).slots) :=
  own_met (ret := (some .boolean)) (Q := (Q3 Z o0 ln G w_record w_at h0 n0)) (plainFor_of_name pn_3) (fun m => ef_3 m o0) (fun p e s m below meth c s₁ X hx hby hml hown hnm hZ e0 => j3 X hx hZ hw hby hml hown hnm e0 (Fr.nil n0) Z0 o0 ln G w_record w_at E_o0 g_o0 F_record_o0 F_at_o0 A_w_record ne_o0__w_record)
theorem own_c0 : (0 : Int32).toNatClampNeg = 0 := by decide
theorem own_c1 : (1 : Int32).toNatClampNeg = 1 := by decide
theorem own_c2 : (2 : Int32).toNatClampNeg = 2 := by decide
theorem own_c3 : (3 : Int32).toNatClampNeg = 3 := by decide
theorem own_c4 : (4 : Int32).toNatClampNeg = 4 := by decide
theorem own_c5 : (5 : Int32).toNatClampNeg = 5 := by decide
theorem own_size {n : Nat} (h : n < 100) : (n.toInt32).toInt = (n : Int) := by
  show (Int32.ofNat n).toInt = (n : Int)
  first | exact Int32.toInt_ofNat_of_lt (by omega) | exact Int32.toInt_ofNat_small (by omega)
theorem own_ne {a : Int32} (A : Nat) (ha : a.toInt = A) {ln : Nat} (h : A < ln ∧ ln < 100) : ¬ (a = (ln).toInt32) := by
  intro q; rw [i32eq, own_size h.2, ha] at q; omega
theorem own_in {a : Int32} (A : Nat) (ha : a.toInt = A) {ln : Nat} (h : A < ln ∧ ln < 100) : InB a ln := inb_of_toInt (by omega) (by omega)
theorem own_b127 (x : Int32) : 0 ≤ (x &&& 127).toInt ∧ (x &&& 127).toInt < 128 := by
  have := Jvm.Kit.i32_mask x 127 (k := 7) (by decide) (by decide)
  omega
theorem own_lo {x : Int32} (h : 0 ≤ x.toInt ∧ x.toInt < 128) : ((nar .byte (x.toInt8.toInt32)) &&& 255).toInt = x.toInt := by
  rw [byte255]; omega
theorem own_hi {x : Int32} (h : 0 ≤ x.toInt ∧ x.toInt < 128) : ((nar .byte ((x ||| 128).toInt8.toInt32)) &&& 255).toInt = x.toInt + 128 := by
  have := (or128 h.1 h.2).1
  rw [byte255]; omega
theorem own_hi' {x : Int32} (h : 0 ≤ x.toInt ∧ x.toInt < 128) : ((nar .byte ((128 ||| x).toInt8.toInt32)) &&& 255).toInt = x.toInt + 128 := by
  have := (or128 h.1 h.2).2
  rw [byte255]; omega
theorem d4_0 : decode prog_21_method_3_code 0 = .ok (.iconst 0, 1) := by decide +kernel
theorem d4_1 : decode prog_21_method_3_code 1 = .ok (.istore_n 1, 1) := by decide +kernel
theorem d4_2 : decode prog_21_method_3_code 2 = .ok (.iconst 0, 1) := by decide +kernel
theorem d4_3 : decode prog_21_method_3_code 3 = .ok (.istore_n 2, 1) := by decide +kernel
theorem d4_4 : decode prog_21_method_3_code 4 = .ok (.aload_n 0, 1) := by decide +kernel
theorem d4_5 : decode prog_21_method_3_code 5 = .ok (.getfield 13, 3) := by decide +kernel
theorem d4_8 : decode prog_21_method_3_code 8 = .ok (.aload_n 0, 1) := by decide +kernel
theorem d4_9 : decode prog_21_method_3_code 9 = .ok (.getfield 7, 3) := by decide +kernel
theorem d4_12 : decode prog_21_method_3_code 12 = .ok (.arraylength, 1) := by decide +kernel
theorem d4_13 : decode prog_21_method_3_code 13 = .ok (.if_icmp .ne 13, 3) := by decide +kernel
theorem d4_26 : decode prog_21_method_3_code 26 = .ok (.aload_n 0, 1) := by decide +kernel
theorem d4_27 : decode prog_21_method_3_code 27 = .ok (.getfield 7, 3) := by decide +kernel
theorem d4_30 : decode prog_21_method_3_code 30 = .ok (.aload_n 0, 1) := by decide +kernel
theorem d4_31 : decode prog_21_method_3_code 31 = .ok (.dup, 1) := by decide +kernel
theorem d4_32 : decode prog_21_method_3_code 32 = .ok (.getfield 13, 3) := by decide +kernel
theorem d4_35 : decode prog_21_method_3_code 35 = .ok (.dup_x1, 1) := by decide +kernel
theorem d4_36 : decode prog_21_method_3_code 36 = .ok (.iconst 1, 1) := by decide +kernel
theorem d4_37 : decode prog_21_method_3_code 37 = .ok (.iadd, 1) := by decide +kernel
theorem d4_38 : decode prog_21_method_3_code 38 = .ok (.putfield 13, 3) := by decide +kernel
theorem d4_41 : decode prog_21_method_3_code 41 = .ok (.baload, 1) := by decide +kernel
theorem d4_42 : decode prog_21_method_3_code 42 = .ok (.sipush 255, 3) := by decide +kernel
theorem d4_45 : decode prog_21_method_3_code 45 = .ok (.iand, 1) := by decide +kernel
theorem d4_46 : decode prog_21_method_3_code 46 = .ok (.istore_n 3, 1) := by decide +kernel
theorem d4_47 : decode prog_21_method_3_code 47 = .ok (.iload_n 2, 1) := by decide +kernel
theorem d4_48 : decode prog_21_method_3_code 48 = .ok (.bipush 28, 2) := by decide +kernel
theorem d4_50 : decode prog_21_method_3_code 50 = .ok (.if_icmp .ne 19, 3) := by decide +kernel
theorem d4_69 : decode prog_21_method_3_code 69 = .ok (.iload_n 1, 1) := by decide +kernel
theorem d4_70 : decode prog_21_method_3_code 70 = .ok (.iload_n 3, 1) := by decide +kernel
theorem d4_71 : decode prog_21_method_3_code 71 = .ok (.bipush 127, 2) := by decide +kernel
theorem d4_73 : decode prog_21_method_3_code 73 = .ok (.iand, 1) := by decide +kernel
theorem d4_74 : decode prog_21_method_3_code 74 = .ok (.iload_n 2, 1) := by decide +kernel
theorem d4_75 : decode prog_21_method_3_code 75 = .ok (.ishl, 1) := by decide +kernel
theorem d4_76 : decode prog_21_method_3_code 76 = .ok (.ior, 1) := by decide +kernel
theorem d4_77 : decode prog_21_method_3_code 77 = .ok (.istore_n 1, 1) := by decide +kernel
theorem d4_78 : decode prog_21_method_3_code 78 = .ok (.iload_n 3, 1) := by decide +kernel
theorem d4_79 : decode prog_21_method_3_code 79 = .ok (.sipush 128, 3) := by decide +kernel
theorem d4_82 : decode prog_21_method_3_code 82 = .ok (.if_icmp .ge 5, 3) := by decide +kernel
theorem d4_85 : decode prog_21_method_3_code 85 = .ok (.iload_n 1, 1) := by decide +kernel
theorem d4_86 : decode prog_21_method_3_code 86 = .ok (.ireturn, 1) := by decide +kernel
theorem pn_4 : plainName "com/example/faden/faden/rank/RecordReader" = true := by first | (simp [plainName, overriddenIn]; done) | decide +kernel
theorem ef_4 (m : MethodId) (o0 : Addr) : entryFrame m #[(.ref o0)] 4 = mkF m 0 #[.val (.ref o0), .unset, .unset, .unset] [] := by first | (simp [entryFrame, mkF, argsToLocals, Value.category]; done) | rfl
def va0k14_46 (G : Nat → Int32) : Int32 := ((G ((0 : Int32)).toNatClampNeg) &&& (255 : Int32))
def va0k14_77 (G : Nat → Int32) : Int32 := ((0 : Int32) ||| (((va0k14_46 G) &&& (127 : Int32)) <<< ((0 : Int32) &&& 31)))
theorem bra0k14_13 (ln : Nat) (G : Nat → Int32) (hln : 1 ≤ ln ∧ ln < 100) (hb0 : ((G 0) &&& 255).toInt < 128) : ¬ ((0 : Int32) = (ln).toInt32) := own_ne 0 (by decide) (by omega)
theorem iba0k14_41 (ln : Nat) (G : Nat → Int32) (hln : 1 ≤ ln ∧ ln < 100) (hb0 : ((G 0) &&& 255).toInt < 128) : InB (0 : Int32) ln := own_in 0 (by decide) (by omega)
theorem bra0k14_82 (G : Nat → Int32) (ln : Nat) (hln : 1 ≤ ln ∧ ln < 100) (hb0 : ((G 0) &&& 255).toInt < 128) : (va0k14_46 G) < (128 : Int32) := by
  have c0 : (128 : Int32).toInt = 128 := rfl
  have c1 : (7 : Int32).toInt = 7 := rfl
  have e0 : (va0k14_46 G).toInt = ((G 0) &&& 255).toInt := by
    unfold va0k14_46; rw [own_c0]
  rw [i32lt, e0]; omega
def Q4a0k1 (Z : State) (o0 : Addr) (ln : Nat) (G : Nat → Int32) (w_record : Addr) (h0 : Heap) (n0 : Nat) : Option Value → Heap → List Loc → Prop := fun v h L => v = some (.int (va0k14_77 G)) ∧ Fr n0 L ∧ Keep h0 h [o0] ∧ Exa Z h o0 "com/example/faden/faden/rank/RecordReader" ∧ Fld Z h o0 "com/example/faden/faden/rank/RecordReader" "record" "[B" (.ref w_record) ∧ Fld Z h o0 "com/example/faden/faden/rank/RecordReader" "at" "I" (.int (1 : Int32))
set_option maxRecDepth 65536 in
set_option maxHeartbeats 40000000 in
theorem j4a0k1 {p : Program} {l : Launch} {e : Env} {s : State} {m : MethodId} {args : Array Value} {below : List Frame} {meth : Method} {c : Code} {T0 : State} {locs : List Loc} {Z : State} {a0 : Array Value} {h0 : Heap} {n0 : Nat}
    (X0 : Stand p l e ({ frames := 0, cells := 0, slots := 0, locals := 0 } : Room) s m args below meth c T0 locs 0 0) (hx : p.tables.exec = Jvm.exec) (hZ : Z.Warmed39 s.vm) (hw : ∀ d ∈ tables_1, d.before a0 Z = true) (hby : c.code = prog_21_method_3_code) (hml : c.maxLocals = 4) (hown : s.vm.findClass "com/example/faden/faden/rank/RecordReader" = some m.cls) (hnm : meth.name = "number") (e0 : T0.heap = h0) (N0 : Fr n0 locs) (Z0 : n0 ≤ h0.size) (o0 : Addr) (ln : Nat) (G : Nat → Int32) (w_record : Addr) (E_o0 : Exa Z h0 o0 "com/example/faden/faden/rank/RecordReader") (g_o0 : n0 ≤ o0) (F_record_o0 : Fld Z h0 o0 "com/example/faden/faden/rank/RecordReader" "record" "[B" (.ref w_record)) (F_at_o0 : Fld Z h0 o0 "com/example/faden/faden/rank/RecordReader" "at" "I" (.int (0 : Int32))) (A_w_record : Ary Z h0 w_record .byte ln (fun i => .int (G i))) (ne_o0__w_record : o0 ≠ w_record) (hln : 1 ≤ ln ∧ ln < 100) (hb0 : ((G 0) &&& 255).toInt < 128) :
    OwnFin X0 (some .int) (Q4a0k1 Z o0 ln G w_record h0 n0) ({ frames := 0, cells := 0, slots := 0, locals := 0 } : Room).cells ({ frames := 0, cells := 0, slots := 0, locals := 0 } : Room).slots (mkF m 0 #[.val (.ref o0), .unset, .unset, .unset] []) := by
  refine OwnFin.step (g' := (mkF m 1 #[.val (.ref o0), .unset, .unset, .unset] [(.int (0 : Int32))])) X0 (fun t k => XS.iconst X0.here hx rfl (hb hby d4_0) k) ?_
  refine OwnFin.step (g' := (mkF m 2 #[.val (.ref o0), .val (.int (0 : Int32)), .unset, .unset] [])) X0 (fun t k => XS.istoreN X0.here hx rfl (hb hby d4_1) rfl (l' := #[.val (.ref o0), .val (.int (0 : Int32)), .unset, .unset]) rfl k) ?_
  refine OwnFin.step (g' := (mkF m 3 #[.val (.ref o0), .val (.int (0 : Int32)), .unset, .unset] [(.int (0 : Int32))])) X0 (fun t k => XS.iconst X0.here hx rfl (hb hby d4_2) k) ?_
  refine OwnFin.step (g' := (mkF m 4 #[.val (.ref o0), .val (.int (0 : Int32)), .val (.int (0 : Int32)), .unset] [])) X0 (fun t k => XS.istoreN X0.here hx rfl (hb hby d4_3) rfl (l' := #[.val (.ref o0), .val (.int (0 : Int32)), .val (.int (0 : Int32)), .unset]) rfl k) ?_
  refine OwnFin.step (g' := (mkF m 5 #[.val (.ref o0), .val (.int (0 : Int32)), .val (.int (0 : Int32)), .unset] [(.ref o0)])) X0 (fun t k => XS.aloadN X0.here hx rfl (hb hby d4_4) rfl rfl k) ?_
  obtain ⟨T1, X1, e1, st1⟩ := getF X0 hx hZ hown (host := "") (Or.inl (hw _ (wm 17 rfl))) Via.refl e0 F_at_o0 (g := (mkF m 5 #[.val (.ref o0), .val (.int (0 : Int32)), .val (.int (0 : Int32)), .unset] [(.ref o0)])) rfl rfl (hb hby d4_5)
  refine OwnFin.step (g' := (mkF m 8 #[.val (.ref o0), .val (.int (0 : Int32)), .val (.int (0 : Int32)), .unset] [(.int (0 : Int32))])) X1 (fun t k => st1 _ k) ?_
  refine OwnFin.step (g' := (mkF m 9 #[.val (.ref o0), .val (.int (0 : Int32)), .val (.int (0 : Int32)), .unset] [(.ref o0), (.int (0 : Int32))])) X1 (fun t k => XS.aloadN X1.here hx rfl (hb hby d4_8) rfl rfl k) ?_
  obtain ⟨T2, X2, e2, st2⟩ := getF X1 hx hZ hown (host := "") (Or.inl (hw _ (wm 10 rfl))) Via.refl e1 F_record_o0 (g := (mkF m 9 #[.val (.ref o0), .val (.int (0 : Int32)), .val (.int (0 : Int32)), .unset] [(.ref o0), (.int (0 : Int32))])) rfl rfl (hb hby d4_9)
  refine OwnFin.step (g' := (mkF m 12 #[.val (.ref o0), .val (.int (0 : Int32)), .val (.int (0 : Int32)), .unset] [(.ref w_record), (.int (0 : Int32))])) X2 (fun t k => st2 _ k) ?_
  refine OwnFin.step (g' := (mkF m 13 #[.val (.ref o0), .val (.int (0 : Int32)), .val (.int (0 : Int32)), .unset] [(.int (ln).toInt32), (.int (0 : Int32))])) X2 (fun t k => own_len X2 hx hZ e2 A_w_record (g := (mkF m 12 #[.val (.ref o0), .val (.int (0 : Int32)), .val (.int (0 : Int32)), .unset] [(.ref w_record), (.int (0 : Int32))])) rfl rfl (hb hby d4_12) _ k) ?_
  refine OwnFin.step (g' := (mkF m 26 #[.val (.ref o0), .val (.int (0 : Int32)), .val (.int (0 : Int32)), .unset] [])) X2 (fun t k => XS.icmpYes X2.here hx rfl (pc0 := 13) (pc' := 26) rfl (hb hby d4_13) rfl (feq (bra0k14_13 ln G hln hb0)).2 (by decide) (by decide) k) ?_
  refine OwnFin.step (g' := (mkF m 27 #[.val (.ref o0), .val (.int (0 : Int32)), .val (.int (0 : Int32)), .unset] [(.ref o0)])) X2 (fun t k => XS.aloadN X2.here hx rfl (hb hby d4_26) rfl rfl k) ?_
  obtain ⟨T3, X3, e3, st3⟩ := getF X2 hx hZ hown (host := "") (Or.inl (hw _ (wm 10 rfl))) Via.refl e2 F_record_o0 (g := (mkF m 27 #[.val (.ref o0), .val (.int (0 : Int32)), .val (.int (0 : Int32)), .unset] [(.ref o0)])) rfl rfl (hb hby d4_27)
  refine OwnFin.step (g' := (mkF m 30 #[.val (.ref o0), .val (.int (0 : Int32)), .val (.int (0 : Int32)), .unset] [(.ref w_record)])) X3 (fun t k => st3 _ k) ?_
  refine OwnFin.step (g' := (mkF m 31 #[.val (.ref o0), .val (.int (0 : Int32)), .val (.int (0 : Int32)), .unset] [(.ref o0), (.ref w_record)])) X3 (fun t k => XS.aloadN X3.here hx rfl (hb hby d4_30) rfl rfl k) ?_
  refine OwnFin.step (g' := (mkF m 32 #[.val (.ref o0), .val (.int (0 : Int32)), .val (.int (0 : Int32)), .unset] [(.ref o0), (.ref o0), (.ref w_record)])) X3 (fun t k => XS.dup X3.here hx rfl (hb hby d4_31) rfl rfl k) ?_
  obtain ⟨T4, X4, e4, st4⟩ := getF X3 hx hZ hown (host := "") (Or.inl (hw _ (wm 17 rfl))) Via.refl e3 F_at_o0 (g := (mkF m 32 #[.val (.ref o0), .val (.int (0 : Int32)), .val (.int (0 : Int32)), .unset] [(.ref o0), (.ref o0), (.ref w_record)])) rfl rfl (hb hby d4_32)
  refine OwnFin.step (g' := (mkF m 35 #[.val (.ref o0), .val (.int (0 : Int32)), .val (.int (0 : Int32)), .unset] [(.int (0 : Int32)), (.ref o0), (.ref w_record)])) X4 (fun t k => st4 _ k) ?_
  refine OwnFin.step (g' := (mkF m 36 #[.val (.ref o0), .val (.int (0 : Int32)), .val (.int (0 : Int32)), .unset] [(.int (0 : Int32)), (.ref o0), (.int (0 : Int32)), (.ref w_record)])) X4 (fun t k => XT.dupX1 X4.here hx rfl (hb hby d4_35) rfl rfl rfl k) ?_
  refine OwnFin.step (g' := (mkF m 37 #[.val (.ref o0), .val (.int (0 : Int32)), .val (.int (0 : Int32)), .unset] [(.int (1 : Int32)), (.int (0 : Int32)), (.ref o0), (.int (0 : Int32)), (.ref w_record)])) X4 (fun t k => XS.iconst X4.here hx rfl (hb hby d4_36) k) ?_
  refine OwnFin.step (g' := (mkF m 38 #[.val (.ref o0), .val (.int (0 : Int32)), .val (.int (0 : Int32)), .unset] [(.int (1 : Int32)), (.ref o0), (.int (0 : Int32)), (.ref w_record)])) X4 (fun t k => XS.iadd X4.here hx rfl (hb hby d4_37) rfl k) ?_
  obtain ⟨T5, h5, L5, X5, e5, N5, W5, F5, st5⟩ := own_putF X4 hx hZ hown (hw _ (wm 17 rfl)) e4 N0 F_at_o0 E_o0 g_o0 (Or.inl (hw _ (wm 18 rfl))) (hw _ (wm 2 rfl)) (fty := .int) (by decide) rfl rfl (g := (mkF m 38 #[.val (.ref o0), .val (.int (0 : Int32)), .val (.int (0 : Int32)), .unset] [(.int (1 : Int32)), (.ref o0), (.int (0 : Int32)), (.ref w_record)])) rfl rfl (hb hby d4_38)
  have K5 := Keep.of_wr W5
  have Z5 := Nat.le_trans Z0 K5.1
  have S5 := Nat.le_trans (Nat.le_refl h0.size) K5.1
  have F6 := Fld.other W5 F_record_o0 (Or.inr (slot_ne (Or.inr (hw _ (wm 11 rfl))) (Or.inl (hw _ (wm 18 rfl))) (by decide) (t := (.array .byte)) (t' := .int) (by decide) (by decide)))
  have E7 := Exa.wr W5 E_o0
  refine OwnFin.step (g' := (mkF m 41 #[.val (.ref o0), .val (.int (0 : Int32)), .val (.int (0 : Int32)), .unset] [(.int (0 : Int32)), (.ref w_record)])) X5 (fun t k => st5 _ k) ?_
  have A8 := (A_w_record.keep K5 (ninS (Ne.symm ne_o0__w_record) nin0))
  refine OwnFin.step (g' := (mkF m 42 #[.val (.ref o0), .val (.int (0 : Int32)), .val (.int (0 : Int32)), .unset] [(.int (G ((0 : Int32)).toNatClampNeg))])) X5 (fun t k => own_ldB X5 hx hZ e5 A8 (iba0k14_41 ln G hln hb0) rfl (g := (mkF m 41 #[.val (.ref o0), .val (.int (0 : Int32)), .val (.int (0 : Int32)), .unset] [(.int (0 : Int32)), (.ref w_record)])) rfl rfl (hb hby d4_41) _ k) ?_
  refine OwnFin.step (g' := (mkF m 45 #[.val (.ref o0), .val (.int (0 : Int32)), .val (.int (0 : Int32)), .unset] [(.int (255 : Int32)), (.int (G ((0 : Int32)).toNatClampNeg))])) X5 (fun t k => XS.sipush X5.here hx rfl (hb hby d4_42) k) ?_
  refine OwnFin.step (g' := (mkF m 46 #[.val (.ref o0), .val (.int (0 : Int32)), .val (.int (0 : Int32)), .unset] [(.int ((G ((0 : Int32)).toNatClampNeg) &&& (255 : Int32)))])) X5 (fun t k => XS.iand X5.here hx rfl (hb hby d4_45) rfl k) ?_
  refine OwnFin.step (g' := (mkF m 47 #[.val (.ref o0), .val (.int (0 : Int32)), .val (.int (0 : Int32)), .val (.int (va0k14_46 G))] [])) X5 (fun t k => XS.istoreN X5.here hx rfl (hb hby d4_46) rfl (l' := #[.val (.ref o0), .val (.int (0 : Int32)), .val (.int (0 : Int32)), .val (.int (va0k14_46 G))]) rfl k) ?_
  refine OwnFin.step (g' := (mkF m 48 #[.val (.ref o0), .val (.int (0 : Int32)), .val (.int (0 : Int32)), .val (.int (va0k14_46 G))] [(.int (0 : Int32))])) X5 (fun t k => XS.iloadN X5.here hx rfl (hb hby d4_47) rfl k) ?_
  refine OwnFin.step (g' := (mkF m 50 #[.val (.ref o0), .val (.int (0 : Int32)), .val (.int (0 : Int32)), .val (.int (va0k14_46 G))] [(.int (28 : Int32)), (.int (0 : Int32))])) X5 (fun t k => XS.bipush X5.here hx rfl (hb hby d4_48) k) ?_
  refine OwnFin.step (g' := (mkF m 69 #[.val (.ref o0), .val (.int (0 : Int32)), .val (.int (0 : Int32)), .val (.int (va0k14_46 G))] [])) X5 (fun t k => XS.icmpYes X5.here hx rfl (pc0 := 50) (pc' := 69) rfl (hb hby d4_50) rfl (feq (by decide)).2 (by decide) (by decide) k) ?_
  refine OwnFin.step (g' := (mkF m 70 #[.val (.ref o0), .val (.int (0 : Int32)), .val (.int (0 : Int32)), .val (.int (va0k14_46 G))] [(.int (0 : Int32))])) X5 (fun t k => XS.iloadN X5.here hx rfl (hb hby d4_69) rfl k) ?_
  refine OwnFin.step (g' := (mkF m 71 #[.val (.ref o0), .val (.int (0 : Int32)), .val (.int (0 : Int32)), .val (.int (va0k14_46 G))] [(.int (va0k14_46 G)), (.int (0 : Int32))])) X5 (fun t k => XS.iloadN X5.here hx rfl (hb hby d4_70) rfl k) ?_
  refine OwnFin.step (g' := (mkF m 73 #[.val (.ref o0), .val (.int (0 : Int32)), .val (.int (0 : Int32)), .val (.int (va0k14_46 G))] [(.int (127 : Int32)), (.int (va0k14_46 G)), (.int (0 : Int32))])) X5 (fun t k => XS.bipush X5.here hx rfl (hb hby d4_71) k) ?_
  refine OwnFin.step (g' := (mkF m 74 #[.val (.ref o0), .val (.int (0 : Int32)), .val (.int (0 : Int32)), .val (.int (va0k14_46 G))] [(.int ((va0k14_46 G) &&& (127 : Int32))), (.int (0 : Int32))])) X5 (fun t k => XS.iand X5.here hx rfl (hb hby d4_73) rfl k) ?_
  refine OwnFin.step (g' := (mkF m 75 #[.val (.ref o0), .val (.int (0 : Int32)), .val (.int (0 : Int32)), .val (.int (va0k14_46 G))] [(.int (0 : Int32)), (.int ((va0k14_46 G) &&& (127 : Int32))), (.int (0 : Int32))])) X5 (fun t k => XS.iloadN X5.here hx rfl (hb hby d4_74) rfl k) ?_
  refine OwnFin.step (g' := (mkF m 76 #[.val (.ref o0), .val (.int (0 : Int32)), .val (.int (0 : Int32)), .val (.int (va0k14_46 G))] [(.int (((va0k14_46 G) &&& (127 : Int32)) <<< ((0 : Int32) &&& 31))), (.int (0 : Int32))])) X5 (fun t k => XT.ishl X5.here hx rfl (hb hby d4_75) rfl k) ?_
  refine OwnFin.step (g' := (mkF m 77 #[.val (.ref o0), .val (.int (0 : Int32)), .val (.int (0 : Int32)), .val (.int (va0k14_46 G))] [(.int ((0 : Int32) ||| (((va0k14_46 G) &&& (127 : Int32)) <<< ((0 : Int32) &&& 31))))])) X5 (fun t k => XT.ior X5.here hx rfl (hb hby d4_76) rfl k) ?_
  refine OwnFin.step (g' := (mkF m 78 #[.val (.ref o0), .val (.int (va0k14_77 G)), .val (.int (0 : Int32)), .val (.int (va0k14_46 G))] [])) X5 (fun t k => XS.istoreN X5.here hx rfl (hb hby d4_77) rfl (l' := #[.val (.ref o0), .val (.int (va0k14_77 G)), .val (.int (0 : Int32)), .val (.int (va0k14_46 G))]) rfl k) ?_
  refine OwnFin.step (g' := (mkF m 79 #[.val (.ref o0), .val (.int (va0k14_77 G)), .val (.int (0 : Int32)), .val (.int (va0k14_46 G))] [(.int (va0k14_46 G))])) X5 (fun t k => XS.iloadN X5.here hx rfl (hb hby d4_78) rfl k) ?_
  refine OwnFin.step (g' := (mkF m 82 #[.val (.ref o0), .val (.int (va0k14_77 G)), .val (.int (0 : Int32)), .val (.int (va0k14_46 G))] [(.int (128 : Int32)), (.int (va0k14_46 G))])) X5 (fun t k => XS.sipush X5.here hx rfl (hb hby d4_79) k) ?_
  refine OwnFin.step (g' := (mkF m 85 #[.val (.ref o0), .val (.int (va0k14_77 G)), .val (.int (0 : Int32)), .val (.int (va0k14_46 G))] [])) X5 (fun t k => XS.icmpNo X5.here hx rfl (hb hby d4_82) rfl (tlt (bra0k14_82 G ln hln hb0)).2.1 k) ?_
  refine OwnFin.step (g' := (mkF m 86 #[.val (.ref o0), .val (.int (va0k14_77 G)), .val (.int (0 : Int32)), .val (.int (va0k14_46 G))] [(.int (va0k14_77 G))])) X5 (fun t k => XS.iloadN X5.here hx rfl (hb hby d4_85) rfl k) ?_
  refine OwnFin.retInt X5 (hb hby d4_86) (by decide) (by decide) ?_
  rw [e5]
  exact ⟨rfl, N5, (Keep.trans (Keep.refl h0 [o0]) K5 (allS (Or.inl (List.mem_of_getElem? (i := 0) rfl)) all0)), E7, F6, F5⟩
set_option maxRecDepth 65536 in
set_option maxHeartbeats 40000000 in
theorem rm4a0k1 (l : Launch) (Z : State) (a0 : Array Value) (hw : ∀ d ∈ tables_1, d.before a0 Z = true) (ws : List Jvm.Cond) (o0 : Addr) (ln : Nat) (G : Nat → Int32) (w_record : Addr) (h0 : Heap) (n0 : Nat) (Z0 : n0 ≤ h0.size) (E_o0 : Exa Z h0 o0 "com/example/faden/faden/rank/RecordReader") (g_o0 : n0 ≤ o0) (F_record_o0 : Fld Z h0 o0 "com/example/faden/faden/rank/RecordReader" "record" "[B" (.ref w_record)) (F_at_o0 : Fld Z h0 o0 "com/example/faden/faden/rank/RecordReader" "at" "I" (.int (0 : Int32))) (A_w_record : Ary Z h0 w_record .byte ln (fun i => .int (G i))) (ne_o0__w_record : o0 ≠ w_record) (hln : 1 ≤ ln ∧ ln < 100) (hb0 : ((G 0) &&& 255).toInt < 128) :
    MetFree l (⟨"com/example/faden/faden/rank/RecordReader", "number", "()I"⟩ : MethodName) (head1 (Jvm.Cond.code (⟨"com/example/faden/faden/rank/RecordReader", "number", "()I"⟩ : MethodName) prog_21_method_3_code 4 (some .int) :: ws) ({ frames := 0, cells := 0, slots := 0, locals := 0 } : Room)) (fun a U => a = #[(.ref o0)] ∧ Z.Warmed39 U.vm ∧ U.heap = h0) (fun _ _ _ _ _ => True) (fun _ U o U' => ∃ v L, o = .returned v ∧ (Q4a0k1 Z o0 ln G w_record h0 n0) v U'.heap L ∧ FrameEnd U o U' L ({ frames := 0, cells := 0, slots := 0, locals := 0 } : Room).cells ({ frames := 0, cells := 0, slots := 0, locals := 0 } : Room).slots) :=
  own_met (ret := (some .int)) (Q := (Q4a0k1 Z o0 ln G w_record h0 n0)) (plainFor_of_name pn_4) (fun m => ef_4 m o0) (fun p e s m below meth c s₁ X hx hby hml hown hnm hZ e0 => j4a0k1 X hx hZ hw hby hml hown hnm e0 (Fr.nil n0) Z0 o0 ln G w_record E_o0 g_o0 F_record_o0 F_at_o0 A_w_record ne_o0__w_record hln hb0)
theorem d4_87 : decode prog_21_method_3_code 87 = .ok (.iinc 2 7, 3) := by decide +kernel
theorem d4_90 : decode prog_21_method_3_code 90 = .ok (.goto (-86), 3) := by decide +kernel
def va0k24_46 (G : Nat → Int32) : Int32 := ((G ((0 : Int32)).toNatClampNeg) &&& (255 : Int32))
def va0k24_77 (G : Nat → Int32) : Int32 := ((0 : Int32) ||| (((va0k24_46 G) &&& (127 : Int32)) <<< ((0 : Int32) &&& 31)))
def va0k24_46b (G : Nat → Int32) : Int32 := ((G ((1 : Int32)).toNatClampNeg) &&& (255 : Int32))
def va0k24_77b (G : Nat → Int32) : Int32 := ((va0k24_77 G) ||| (((va0k24_46b G) &&& (127 : Int32)) <<< ((7 : Int32) &&& 31)))
theorem bra0k24_13 (ln : Nat) (G : Nat → Int32) (hln : 2 ≤ ln ∧ ln < 100) (hb0 : 128 ≤ ((G 0) &&& 255).toInt) (hb1 : ((G 1) &&& 255).toInt < 128) : ¬ ((0 : Int32) = (ln).toInt32) := own_ne 0 (by decide) (by omega)
theorem iba0k24_41 (ln : Nat) (G : Nat → Int32) (hln : 2 ≤ ln ∧ ln < 100) (hb0 : 128 ≤ ((G 0) &&& 255).toInt) (hb1 : ((G 1) &&& 255).toInt < 128) : InB (0 : Int32) ln := own_in 0 (by decide) (by omega)
theorem bra0k24_82 (G : Nat → Int32) (ln : Nat) (hln : 2 ≤ ln ∧ ln < 100) (hb0 : 128 ≤ ((G 0) &&& 255).toInt) (hb1 : ((G 1) &&& 255).toInt < 128) : ¬ ((va0k24_46 G) < (128 : Int32)) := by
  have c0 : (128 : Int32).toInt = 128 := rfl
  have c1 : (7 : Int32).toInt = 7 := rfl
  have e0 : (va0k24_46 G).toInt = ((G 0) &&& 255).toInt := by
    unfold va0k24_46; rw [own_c0]
  rw [i32lt, e0]; omega
theorem bra0k24_13z (ln : Nat) (G : Nat → Int32) (hln : 2 ≤ ln ∧ ln < 100) (hb0 : 128 ≤ ((G 0) &&& 255).toInt) (hb1 : ((G 1) &&& 255).toInt < 128) : ¬ ((1 : Int32) = (ln).toInt32) := own_ne 1 (by decide) (by omega)
theorem iba0k24_41z (ln : Nat) (G : Nat → Int32) (hln : 2 ≤ ln ∧ ln < 100) (hb0 : 128 ≤ ((G 0) &&& 255).toInt) (hb1 : ((G 1) &&& 255).toInt < 128) : InB (1 : Int32) ln := own_in 1 (by decide) (by omega)
theorem bra0k24_82z (G : Nat → Int32) (ln : Nat) (hln : 2 ≤ ln ∧ ln < 100) (hb0 : 128 ≤ ((G 0) &&& 255).toInt) (hb1 : ((G 1) &&& 255).toInt < 128) : (va0k24_46b G) < (128 : Int32) := by
  have c0 : (128 : Int32).toInt = 128 := rfl
  have c1 : (7 : Int32).toInt = 7 := rfl
  have e0 : (va0k24_46b G).toInt = ((G 1) &&& 255).toInt := by
    unfold va0k24_46b; rw [own_c1]
  rw [i32lt, e0]; omega
def Q4a0k2 (Z : State) (o0 : Addr) (ln : Nat) (G : Nat → Int32) (w_record : Addr) (h0 : Heap) (n0 : Nat) : Option Value → Heap → List Loc → Prop := fun v h L => v = some (.int (va0k24_77b G)) ∧ Fr n0 L ∧ Keep h0 h [o0] ∧ Exa Z h o0 "com/example/faden/faden/rank/RecordReader" ∧ Fld Z h o0 "com/example/faden/faden/rank/RecordReader" "record" "[B" (.ref w_record) ∧ Fld Z h o0 "com/example/faden/faden/rank/RecordReader" "at" "I" (.int (2 : Int32))
set_option maxRecDepth 65536 in
set_option maxHeartbeats 40000000 in
theorem j4a0k2 {p : Program} {l : Launch} {e : Env} {s : State} {m : MethodId} {args : Array Value} {below : List Frame} {meth : Method} {c : Code} {T0 : State} {locs : List Loc} {Z : State} {a0 : Array Value} {h0 : Heap} {n0 : Nat}
    (X0 : Stand p l e ({ frames := 0, cells := 0, slots := 0, locals := 0 } : Room) s m args below meth c T0 locs 0 0) (hx : p.tables.exec = Jvm.exec) (hZ : Z.Warmed39 s.vm) (hw : ∀ d ∈ tables_1, d.before a0 Z = true) (hby : c.code = prog_21_method_3_code) (hml : c.maxLocals = 4) (hown : s.vm.findClass "com/example/faden/faden/rank/RecordReader" = some m.cls) (hnm : meth.name = "number") (e0 : T0.heap = h0) (N0 : Fr n0 locs) (Z0 : n0 ≤ h0.size) (o0 : Addr) (ln : Nat) (G : Nat → Int32) (w_record : Addr) (E_o0 : Exa Z h0 o0 "com/example/faden/faden/rank/RecordReader") (g_o0 : n0 ≤ o0) (F_record_o0 : Fld Z h0 o0 "com/example/faden/faden/rank/RecordReader" "record" "[B" (.ref w_record)) (F_at_o0 : Fld Z h0 o0 "com/example/faden/faden/rank/RecordReader" "at" "I" (.int (0 : Int32))) (A_w_record : Ary Z h0 w_record .byte ln (fun i => .int (G i))) (ne_o0__w_record : o0 ≠ w_record) (hln : 2 ≤ ln ∧ ln < 100) (hb0 : 128 ≤ ((G 0) &&& 255).toInt) (hb1 : ((G 1) &&& 255).toInt < 128) :
    OwnFin X0 (some .int) (Q4a0k2 Z o0 ln G w_record h0 n0) ({ frames := 0, cells := 0, slots := 0, locals := 0 } : Room).cells ({ frames := 0, cells := 0, slots := 0, locals := 0 } : Room).slots (mkF m 0 #[.val (.ref o0), .unset, .unset, .unset] []) := by
  refine OwnFin.step (g' := (mkF m 1 #[.val (.ref o0), .unset, .unset, .unset] [(.int (0 : Int32))])) X0 (fun t k => XS.iconst X0.here hx rfl (hb hby d4_0) k) ?_
  refine OwnFin.step (g' := (mkF m 2 #[.val (.ref o0), .val (.int (0 : Int32)), .unset, .unset] [])) X0 (fun t k => XS.istoreN X0.here hx rfl (hb hby d4_1) rfl (l' := #[.val (.ref o0), .val (.int (0 : Int32)), .unset, .unset]) rfl k) ?_
  refine OwnFin.step (g' := (mkF m 3 #[.val (.ref o0), .val (.int (0 : Int32)), .unset, .unset] [(.int (0 : Int32))])) X0 (fun t k => XS.iconst X0.here hx rfl (hb hby d4_2) k) ?_
  refine OwnFin.step (g' := (mkF m 4 #[.val (.ref o0), .val (.int (0 : Int32)), .val (.int (0 : Int32)), .unset] [])) X0 (fun t k => XS.istoreN X0.here hx rfl (hb hby d4_3) rfl (l' := #[.val (.ref o0), .val (.int (0 : Int32)), .val (.int (0 : Int32)), .unset]) rfl k) ?_
  refine OwnFin.step (g' := (mkF m 5 #[.val (.ref o0), .val (.int (0 : Int32)), .val (.int (0 : Int32)), .unset] [(.ref o0)])) X0 (fun t k => XS.aloadN X0.here hx rfl (hb hby d4_4) rfl rfl k) ?_
  obtain ⟨T1, X1, e1, st1⟩ := getF X0 hx hZ hown (host := "") (Or.inl (hw _ (wm 17 rfl))) Via.refl e0 F_at_o0 (g := (mkF m 5 #[.val (.ref o0), .val (.int (0 : Int32)), .val (.int (0 : Int32)), .unset] [(.ref o0)])) rfl rfl (hb hby d4_5)
  refine OwnFin.step (g' := (mkF m 8 #[.val (.ref o0), .val (.int (0 : Int32)), .val (.int (0 : Int32)), .unset] [(.int (0 : Int32))])) X1 (fun t k => st1 _ k) ?_
  refine OwnFin.step (g' := (mkF m 9 #[.val (.ref o0), .val (.int (0 : Int32)), .val (.int (0 : Int32)), .unset] [(.ref o0), (.int (0 : Int32))])) X1 (fun t k => XS.aloadN X1.here hx rfl (hb hby d4_8) rfl rfl k) ?_
  obtain ⟨T2, X2, e2, st2⟩ := getF X1 hx hZ hown (host := "") (Or.inl (hw _ (wm 10 rfl))) Via.refl e1 F_record_o0 (g := (mkF m 9 #[.val (.ref o0), .val (.int (0 : Int32)), .val (.int (0 : Int32)), .unset] [(.ref o0), (.int (0 : Int32))])) rfl rfl (hb hby d4_9)
  refine OwnFin.step (g' := (mkF m 12 #[.val (.ref o0), .val (.int (0 : Int32)), .val (.int (0 : Int32)), .unset] [(.ref w_record), (.int (0 : Int32))])) X2 (fun t k => st2 _ k) ?_
  refine OwnFin.step (g' := (mkF m 13 #[.val (.ref o0), .val (.int (0 : Int32)), .val (.int (0 : Int32)), .unset] [(.int (ln).toInt32), (.int (0 : Int32))])) X2 (fun t k => own_len X2 hx hZ e2 A_w_record (g := (mkF m 12 #[.val (.ref o0), .val (.int (0 : Int32)), .val (.int (0 : Int32)), .unset] [(.ref w_record), (.int (0 : Int32))])) rfl rfl (hb hby d4_12) _ k) ?_
  refine OwnFin.step (g' := (mkF m 26 #[.val (.ref o0), .val (.int (0 : Int32)), .val (.int (0 : Int32)), .unset] [])) X2 (fun t k => XS.icmpYes X2.here hx rfl (pc0 := 13) (pc' := 26) rfl (hb hby d4_13) rfl (feq (bra0k24_13 ln G hln hb0 hb1)).2 (by decide) (by decide) k) ?_
  refine OwnFin.step (g' := (mkF m 27 #[.val (.ref o0), .val (.int (0 : Int32)), .val (.int (0 : Int32)), .unset] [(.ref o0)])) X2 (fun t k => XS.aloadN X2.here hx rfl (hb hby d4_26) rfl rfl k) ?_
  obtain ⟨T3, X3, e3, st3⟩ := getF X2 hx hZ hown (host := "") (Or.inl (hw _ (wm 10 rfl))) Via.refl e2 F_record_o0 (g := (mkF m 27 #[.val (.ref o0), .val (.int (0 : Int32)), .val (.int (0 : Int32)), .unset] [(.ref o0)])) rfl rfl (hb hby d4_27)
  refine OwnFin.step (g' := (mkF m 30 #[.val (.ref o0), .val (.int (0 : Int32)), .val (.int (0 : Int32)), .unset] [(.ref w_record)])) X3 (fun t k => st3 _ k) ?_
  refine OwnFin.step (g' := (mkF m 31 #[.val (.ref o0), .val (.int (0 : Int32)), .val (.int (0 : Int32)), .unset] [(.ref o0), (.ref w_record)])) X3 (fun t k => XS.aloadN X3.here hx rfl (hb hby d4_30) rfl rfl k) ?_
  refine OwnFin.step (g' := (mkF m 32 #[.val (.ref o0), .val (.int (0 : Int32)), .val (.int (0 : Int32)), .unset] [(.ref o0), (.ref o0), (.ref w_record)])) X3 (fun t k => XS.dup X3.here hx rfl (hb hby d4_31) rfl rfl k) ?_
  obtain ⟨T4, X4, e4, st4⟩ := getF X3 hx hZ hown (host := "") (Or.inl (hw _ (wm 17 rfl))) Via.refl e3 F_at_o0 (g := (mkF m 32 #[.val (.ref o0), .val (.int (0 : Int32)), .val (.int (0 : Int32)), .unset] [(.ref o0), (.ref o0), (.ref w_record)])) rfl rfl (hb hby d4_32)
  refine OwnFin.step (g' := (mkF m 35 #[.val (.ref o0), .val (.int (0 : Int32)), .val (.int (0 : Int32)), .unset] [(.int (0 : Int32)), (.ref o0), (.ref w_record)])) X4 (fun t k => st4 _ k) ?_
  refine OwnFin.step (g' := (mkF m 36 #[.val (.ref o0), .val (.int (0 : Int32)), .val (.int (0 : Int32)), .unset] [(.int (0 : Int32)), (.ref o0), (.int (0 : Int32)), (.ref w_record)])) X4 (fun t k => XT.dupX1 X4.here hx rfl (hb hby d4_35) rfl rfl rfl k) ?_
  refine OwnFin.step (g' := (mkF m 37 #[.val (.ref o0), .val (.int (0 : Int32)), .val (.int (0 : Int32)), .unset] [(.int (1 : Int32)), (.int (0 : Int32)), (.ref o0), (.int (0 : Int32)), (.ref w_record)])) X4 (fun t k => XS.iconst X4.here hx rfl (hb hby d4_36) k) ?_
  refine OwnFin.step (g' := (mkF m 38 #[.val (.ref o0), .val (.int (0 : Int32)), .val (.int (0 : Int32)), .unset] [(.int (1 : Int32)), (.ref o0), (.int (0 : Int32)), (.ref w_record)])) X4 (fun t k => XS.iadd X4.here hx rfl (hb hby d4_37) rfl k) ?_
  obtain ⟨T5, h5, L5, X5, e5, N5, W5, F5, st5⟩ := own_putF X4 hx hZ hown (hw _ (wm 17 rfl)) e4 N0 F_at_o0 E_o0 g_o0 (Or.inl (hw _ (wm 18 rfl))) (hw _ (wm 2 rfl)) (fty := .int) (by decide) rfl rfl (g := (mkF m 38 #[.val (.ref o0), .val (.int (0 : Int32)), .val (.int (0 : Int32)), .unset] [(.int (1 : Int32)), (.ref o0), (.int (0 : Int32)), (.ref w_record)])) rfl rfl (hb hby d4_38)
  have K5 := Keep.of_wr W5
  have Z5 := Nat.le_trans Z0 K5.1
  have S5 := Nat.le_trans (Nat.le_refl h0.size) K5.1
  have F6 := Fld.other W5 F_record_o0 (Or.inr (slot_ne (Or.inr (hw _ (wm 11 rfl))) (Or.inl (hw _ (wm 18 rfl))) (by decide) (t := (.array .byte)) (t' := .int) (by decide) (by decide)))
  have E7 := Exa.wr W5 E_o0
  refine OwnFin.step (g' := (mkF m 41 #[.val (.ref o0), .val (.int (0 : Int32)), .val (.int (0 : Int32)), .unset] [(.int (0 : Int32)), (.ref w_record)])) X5 (fun t k => st5 _ k) ?_
  have A8 := (A_w_record.keep K5 (ninS (Ne.symm ne_o0__w_record) nin0))
  refine OwnFin.step (g' := (mkF m 42 #[.val (.ref o0), .val (.int (0 : Int32)), .val (.int (0 : Int32)), .unset] [(.int (G ((0 : Int32)).toNatClampNeg))])) X5 (fun t k => own_ldB X5 hx hZ e5 A8 (iba0k24_41 ln G hln hb0 hb1) rfl (g := (mkF m 41 #[.val (.ref o0), .val (.int (0 : Int32)), .val (.int (0 : Int32)), .unset] [(.int (0 : Int32)), (.ref w_record)])) rfl rfl (hb hby d4_41) _ k) ?_
  refine OwnFin.step (g' := (mkF m 45 #[.val (.ref o0), .val (.int (0 : Int32)), .val (.int (0 : Int32)), .unset] [(.int (255 : Int32)), (.int (G ((0 : Int32)).toNatClampNeg))])) X5 (fun t k => XS.sipush X5.here hx rfl (hb hby d4_42) k) ?_
  refine OwnFin.step (g' := (mkF m 46 #[.val (.ref o0), .val (.int (0 : Int32)), .val (.int (0 : Int32)), .unset] [(.int ((G ((0 : Int32)).toNatClampNeg) &&& (255 : Int32)))])) X5 (fun t k => XS.iand X5.here hx rfl (hb hby d4_45) rfl k) ?_
  refine OwnFin.step (g' := (mkF m 47 #[.val (.ref o0), .val (.int (0 : Int32)), .val (.int (0 : Int32)), .val (.int (va0k24_46 G))] [])) X5 (fun t k => XS.istoreN X5.here hx rfl (hb hby d4_46) rfl (l' := #[.val (.ref o0), .val (.int (0 : Int32)), .val (.int (0 : Int32)), .val (.int (va0k24_46 G))]) rfl k) ?_
  refine OwnFin.step (g' := (mkF m 48 #[.val (.ref o0), .val (.int (0 : Int32)), .val (.int (0 : Int32)), .val (.int (va0k24_46 G))] [(.int (0 : Int32))])) X5 (fun t k => XS.iloadN X5.here hx rfl (hb hby d4_47) rfl k) ?_
  refine OwnFin.step (g' := (mkF m 50 #[.val (.ref o0), .val (.int (0 : Int32)), .val (.int (0 : Int32)), .val (.int (va0k24_46 G))] [(.int (28 : Int32)), (.int (0 : Int32))])) X5 (fun t k => XS.bipush X5.here hx rfl (hb hby d4_48) k) ?_
  refine OwnFin.step (g' := (mkF m 69 #[.val (.ref o0), .val (.int (0 : Int32)), .val (.int (0 : Int32)), .val (.int (va0k24_46 G))] [])) X5 (fun t k => XS.icmpYes X5.here hx rfl (pc0 := 50) (pc' := 69) rfl (hb hby d4_50) rfl (feq (by decide)).2 (by decide) (by decide) k) ?_
  refine OwnFin.step (g' := (mkF m 70 #[.val (.ref o0), .val (.int (0 : Int32)), .val (.int (0 : Int32)), .val (.int (va0k24_46 G))] [(.int (0 : Int32))])) X5 (fun t k => XS.iloadN X5.here hx rfl (hb hby d4_69) rfl k) ?_
  refine OwnFin.step (g' := (mkF m 71 #[.val (.ref o0), .val (.int (0 : Int32)), .val (.int (0 : Int32)), .val (.int (va0k24_46 G))] [(.int (va0k24_46 G)), (.int (0 : Int32))])) X5 (fun t k => XS.iloadN X5.here hx rfl (hb hby d4_70) rfl k) ?_
  refine OwnFin.step (g' := (mkF m 73 #[.val (.ref o0), .val (.int (0 : Int32)), .val (.int (0 : Int32)), .val (.int (va0k24_46 G))] [(.int (127 : Int32)), (.int (va0k24_46 G)), (.int (0 : Int32))])) X5 (fun t k => XS.bipush X5.here hx rfl (hb hby d4_71) k) ?_
  refine OwnFin.step (g' := (mkF m 74 #[.val (.ref o0), .val (.int (0 : Int32)), .val (.int (0 : Int32)), .val (.int (va0k24_46 G))] [(.int ((va0k24_46 G) &&& (127 : Int32))), (.int (0 : Int32))])) X5 (fun t k => XS.iand X5.here hx rfl (hb hby d4_73) rfl k) ?_
  refine OwnFin.step (g' := (mkF m 75 #[.val (.ref o0), .val (.int (0 : Int32)), .val (.int (0 : Int32)), .val (.int (va0k24_46 G))] [(.int (0 : Int32)), (.int ((va0k24_46 G) &&& (127 : Int32))), (.int (0 : Int32))])) X5 (fun t k => XS.iloadN X5.here hx rfl (hb hby d4_74) rfl k) ?_
  refine OwnFin.step (g' := (mkF m 76 #[.val (.ref o0), .val (.int (0 : Int32)), .val (.int (0 : Int32)), .val (.int (va0k24_46 G))] [(.int (((va0k24_46 G) &&& (127 : Int32)) <<< ((0 : Int32) &&& 31))), (.int (0 : Int32))])) X5 (fun t k => XT.ishl X5.here hx rfl (hb hby d4_75) rfl k) ?_
  refine OwnFin.step (g' := (mkF m 77 #[.val (.ref o0), .val (.int (0 : Int32)), .val (.int (0 : Int32)), .val (.int (va0k24_46 G))] [(.int ((0 : Int32) ||| (((va0k24_46 G) &&& (127 : Int32)) <<< ((0 : Int32) &&& 31))))])) X5 (fun t k => XT.ior X5.here hx rfl (hb hby d4_76) rfl k) ?_
  refine OwnFin.step (g' := (mkF m 78 #[.val (.ref o0), .val (.int (va0k24_77 G)), .val (.int (0 : Int32)), .val (.int (va0k24_46 G))] [])) X5 (fun t k => XS.istoreN X5.here hx rfl (hb hby d4_77) rfl (l' := #[.val (.ref o0), .val (.int (va0k24_77 G)), .val (.int (0 : Int32)), .val (.int (va0k24_46 G))]) rfl k) ?_
  refine OwnFin.step (g' := (mkF m 79 #[.val (.ref o0), .val (.int (va0k24_77 G)), .val (.int (0 : Int32)), .val (.int (va0k24_46 G))] [(.int (va0k24_46 G))])) X5 (fun t k => XS.iloadN X5.here hx rfl (hb hby d4_78) rfl k) ?_
  refine OwnFin.step (g' := (mkF m 82 #[.val (.ref o0), .val (.int (va0k24_77 G)), .val (.int (0 : Int32)), .val (.int (va0k24_46 G))] [(.int (128 : Int32)), (.int (va0k24_46 G))])) X5 (fun t k => XS.sipush X5.here hx rfl (hb hby d4_79) k) ?_
  refine OwnFin.step (g' := (mkF m 87 #[.val (.ref o0), .val (.int (va0k24_77 G)), .val (.int (0 : Int32)), .val (.int (va0k24_46 G))] [])) X5 (fun t k => XS.icmpYes X5.here hx rfl (pc0 := 82) (pc' := 87) rfl (hb hby d4_82) rfl (flt (bra0k24_82 G ln hln hb0 hb1)).2.1 (by decide) (by decide) k) ?_
  refine OwnFin.step (g' := (mkF m 90 #[.val (.ref o0), .val (.int (va0k24_77 G)), .val (.int (7 : Int32)), .val (.int (va0k24_46 G))] [])) X5 (fun t k => XS.iinc X5.here hx rfl (hb hby d4_87) rfl (l' := #[.val (.ref o0), .val (.int (va0k24_77 G)), .val (.int (7 : Int32)), .val (.int (va0k24_46 G))]) rfl k) ?_
  refine OwnFin.step (g' := (mkF m 4 #[.val (.ref o0), .val (.int (va0k24_77 G)), .val (.int (7 : Int32)), .val (.int (va0k24_46 G))] [])) X5 (fun t k => XS.goto X5.here hx rfl (pc0 := 90) (pc' := 4) rfl (hb hby d4_90) (by decide) (by decide) k) ?_
  refine OwnFin.step (g' := (mkF m 5 #[.val (.ref o0), .val (.int (va0k24_77 G)), .val (.int (7 : Int32)), .val (.int (va0k24_46 G))] [(.ref o0)])) X5 (fun t k => XS.aloadN X5.here hx rfl (hb hby d4_4) rfl rfl k) ?_
  obtain ⟨T9, X9, e9, st9⟩ := getF X5 hx hZ hown (host := "") (Or.inl (hw _ (wm 17 rfl))) Via.refl e5 F5 (g := (mkF m 5 #[.val (.ref o0), .val (.int (va0k24_77 G)), .val (.int (7 : Int32)), .val (.int (va0k24_46 G))] [(.ref o0)])) rfl rfl (hb hby d4_5)
  refine OwnFin.step (g' := (mkF m 8 #[.val (.ref o0), .val (.int (va0k24_77 G)), .val (.int (7 : Int32)), .val (.int (va0k24_46 G))] [(.int (1 : Int32))])) X9 (fun t k => st9 _ k) ?_
  refine OwnFin.step (g' := (mkF m 9 #[.val (.ref o0), .val (.int (va0k24_77 G)), .val (.int (7 : Int32)), .val (.int (va0k24_46 G))] [(.ref o0), (.int (1 : Int32))])) X9 (fun t k => XS.aloadN X9.here hx rfl (hb hby d4_8) rfl rfl k) ?_
  obtain ⟨T10, X10, e10, st10⟩ := getF X9 hx hZ hown (host := "") (Or.inl (hw _ (wm 10 rfl))) Via.refl e9 F6 (g := (mkF m 9 #[.val (.ref o0), .val (.int (va0k24_77 G)), .val (.int (7 : Int32)), .val (.int (va0k24_46 G))] [(.ref o0), (.int (1 : Int32))])) rfl rfl (hb hby d4_9)
  refine OwnFin.step (g' := (mkF m 12 #[.val (.ref o0), .val (.int (va0k24_77 G)), .val (.int (7 : Int32)), .val (.int (va0k24_46 G))] [(.ref w_record), (.int (1 : Int32))])) X10 (fun t k => st10 _ k) ?_
  refine OwnFin.step (g' := (mkF m 13 #[.val (.ref o0), .val (.int (va0k24_77 G)), .val (.int (7 : Int32)), .val (.int (va0k24_46 G))] [(.int (ln).toInt32), (.int (1 : Int32))])) X10 (fun t k => own_len X10 hx hZ e10 A8 (g := (mkF m 12 #[.val (.ref o0), .val (.int (va0k24_77 G)), .val (.int (7 : Int32)), .val (.int (va0k24_46 G))] [(.ref w_record), (.int (1 : Int32))])) rfl rfl (hb hby d4_12) _ k) ?_
  refine OwnFin.step (g' := (mkF m 26 #[.val (.ref o0), .val (.int (va0k24_77 G)), .val (.int (7 : Int32)), .val (.int (va0k24_46 G))] [])) X10 (fun t k => XS.icmpYes X10.here hx rfl (pc0 := 13) (pc' := 26) rfl (hb hby d4_13) rfl (feq (bra0k24_13z ln G hln hb0 hb1)).2 (by decide) (by decide) k) ?_
  refine OwnFin.step (g' := (mkF m 27 #[.val (.ref o0), .val (.int (va0k24_77 G)), .val (.int (7 : Int32)), .val (.int (va0k24_46 G))] [(.ref o0)])) X10 (fun t k => XS.aloadN X10.here hx rfl (hb hby d4_26) rfl rfl k) ?_
  obtain ⟨T11, X11, e11, st11⟩ := getF X10 hx hZ hown (host := "") (Or.inl (hw _ (wm 10 rfl))) Via.refl e10 F6 (g := (mkF m 27 #[.val (.ref o0), .val (.int (va0k24_77 G)), .val (.int (7 : Int32)), .val (.int (va0k24_46 G))] [(.ref o0)])) rfl rfl (hb hby d4_27)
  refine OwnFin.step (g' := (mkF m 30 #[.val (.ref o0), .val (.int (va0k24_77 G)), .val (.int (7 : Int32)), .val (.int (va0k24_46 G))] [(.ref w_record)])) X11 (fun t k => st11 _ k) ?_
  refine OwnFin.step (g' := (mkF m 31 #[.val (.ref o0), .val (.int (va0k24_77 G)), .val (.int (7 : Int32)), .val (.int (va0k24_46 G))] [(.ref o0), (.ref w_record)])) X11 (fun t k => XS.aloadN X11.here hx rfl (hb hby d4_30) rfl rfl k) ?_
  refine OwnFin.step (g' := (mkF m 32 #[.val (.ref o0), .val (.int (va0k24_77 G)), .val (.int (7 : Int32)), .val (.int (va0k24_46 G))] [(.ref o0), (.ref o0), (.ref w_record)])) X11 (fun t k => XS.dup X11.here hx rfl (hb hby d4_31) rfl rfl k) ?_
  obtain ⟨T12, X12, e12, st12⟩ := getF X11 hx hZ hown (host := "") (Or.inl (hw _ (wm 17 rfl))) Via.refl e11 F5 (g := (mkF m 32 #[.val (.ref o0), .val (.int (va0k24_77 G)), .val (.int (7 : Int32)), .val (.int (va0k24_46 G))] [(.ref o0), (.ref o0), (.ref w_record)])) rfl rfl (hb hby d4_32)
  refine OwnFin.step (g' := (mkF m 35 #[.val (.ref o0), .val (.int (va0k24_77 G)), .val (.int (7 : Int32)), .val (.int (va0k24_46 G))] [(.int (1 : Int32)), (.ref o0), (.ref w_record)])) X12 (fun t k => st12 _ k) ?_
  refine OwnFin.step (g' := (mkF m 36 #[.val (.ref o0), .val (.int (va0k24_77 G)), .val (.int (7 : Int32)), .val (.int (va0k24_46 G))] [(.int (1 : Int32)), (.ref o0), (.int (1 : Int32)), (.ref w_record)])) X12 (fun t k => XT.dupX1 X12.here hx rfl (hb hby d4_35) rfl rfl rfl k) ?_
  refine OwnFin.step (g' := (mkF m 37 #[.val (.ref o0), .val (.int (va0k24_77 G)), .val (.int (7 : Int32)), .val (.int (va0k24_46 G))] [(.int (1 : Int32)), (.int (1 : Int32)), (.ref o0), (.int (1 : Int32)), (.ref w_record)])) X12 (fun t k => XS.iconst X12.here hx rfl (hb hby d4_36) k) ?_
  refine OwnFin.step (g' := (mkF m 38 #[.val (.ref o0), .val (.int (va0k24_77 G)), .val (.int (7 : Int32)), .val (.int (va0k24_46 G))] [(.int (2 : Int32)), (.ref o0), (.int (1 : Int32)), (.ref w_record)])) X12 (fun t k => XS.iadd X12.here hx rfl (hb hby d4_37) rfl k) ?_
  obtain ⟨T13, h13, L13, X13, e13, N13, W13, F13, st13⟩ := own_putF X12 hx hZ hown (hw _ (wm 17 rfl)) e12 N5 F5 E7 g_o0 (Or.inl (hw _ (wm 18 rfl))) (hw _ (wm 2 rfl)) (fty := .int) (by decide) rfl rfl (g := (mkF m 38 #[.val (.ref o0), .val (.int (va0k24_77 G)), .val (.int (7 : Int32)), .val (.int (va0k24_46 G))] [(.int (2 : Int32)), (.ref o0), (.int (1 : Int32)), (.ref w_record)])) rfl rfl (hb hby d4_38)
  have K13 := Keep.of_wr W13
  have Z13 := Nat.le_trans Z5 K13.1
  have S13 := Nat.le_trans S5 K13.1
  have F14 := Fld.other W13 F6 (Or.inr (slot_ne (Or.inr (hw _ (wm 11 rfl))) (Or.inl (hw _ (wm 18 rfl))) (by decide) (t := (.array .byte)) (t' := .int) (by decide) (by decide)))
  have E15 := Exa.wr W13 E7
  refine OwnFin.step (g' := (mkF m 41 #[.val (.ref o0), .val (.int (va0k24_77 G)), .val (.int (7 : Int32)), .val (.int (va0k24_46 G))] [(.int (1 : Int32)), (.ref w_record)])) X13 (fun t k => st13 _ k) ?_
  have A16 := (A8.keep K13 (ninS (Ne.symm ne_o0__w_record) nin0))
  refine OwnFin.step (g' := (mkF m 42 #[.val (.ref o0), .val (.int (va0k24_77 G)), .val (.int (7 : Int32)), .val (.int (va0k24_46 G))] [(.int (G ((1 : Int32)).toNatClampNeg))])) X13 (fun t k => own_ldB X13 hx hZ e13 A16 (iba0k24_41z ln G hln hb0 hb1) rfl (g := (mkF m 41 #[.val (.ref o0), .val (.int (va0k24_77 G)), .val (.int (7 : Int32)), .val (.int (va0k24_46 G))] [(.int (1 : Int32)), (.ref w_record)])) rfl rfl (hb hby d4_41) _ k) ?_
  refine OwnFin.step (g' := (mkF m 45 #[.val (.ref o0), .val (.int (va0k24_77 G)), .val (.int (7 : Int32)), .val (.int (va0k24_46 G))] [(.int (255 : Int32)), (.int (G ((1 : Int32)).toNatClampNeg))])) X13 (fun t k => XS.sipush X13.here hx rfl (hb hby d4_42) k) ?_
  refine OwnFin.step (g' := (mkF m 46 #[.val (.ref o0), .val (.int (va0k24_77 G)), .val (.int (7 : Int32)), .val (.int (va0k24_46 G))] [(.int ((G ((1 : Int32)).toNatClampNeg) &&& (255 : Int32)))])) X13 (fun t k => XS.iand X13.here hx rfl (hb hby d4_45) rfl k) ?_
  refine OwnFin.step (g' := (mkF m 47 #[.val (.ref o0), .val (.int (va0k24_77 G)), .val (.int (7 : Int32)), .val (.int (va0k24_46b G))] [])) X13 (fun t k => XS.istoreN X13.here hx rfl (hb hby d4_46) rfl (l' := #[.val (.ref o0), .val (.int (va0k24_77 G)), .val (.int (7 : Int32)), .val (.int (va0k24_46b G))]) rfl k) ?_
  refine OwnFin.step (g' := (mkF m 48 #[.val (.ref o0), .val (.int (va0k24_77 G)), .val (.int (7 : Int32)), .val (.int (va0k24_46b G))] [(.int (7 : Int32))])) X13 (fun t k => XS.iloadN X13.here hx rfl (hb hby d4_47) rfl k) ?_
  refine OwnFin.step (g' := (mkF m 50 #[.val (.ref o0), .val (.int (va0k24_77 G)), .val (.int (7 : Int32)), .val (.int (va0k24_46b G))] [(.int (28 : Int32)), (.int (7 : Int32))])) X13 (fun t k => XS.bipush X13.here hx rfl (hb hby d4_48) k) ?_
  refine OwnFin.step (g' := (mkF m 69 #[.val (.ref o0), .val (.int (va0k24_77 G)), .val (.int (7 : Int32)), .val (.int (va0k24_46b G))] [])) X13 (fun t k => XS.icmpYes X13.here hx rfl (pc0 := 50) (pc' := 69) rfl (hb hby d4_50) rfl (feq (by decide)).2 (by decide) (by decide) k) ?_
  refine OwnFin.step (g' := (mkF m 70 #[.val (.ref o0), .val (.int (va0k24_77 G)), .val (.int (7 : Int32)), .val (.int (va0k24_46b G))] [(.int (va0k24_77 G))])) X13 (fun t k => XS.iloadN X13.here hx rfl (hb hby d4_69) rfl k) ?_
  refine OwnFin.step (g' := (mkF m 71 #[.val (.ref o0), .val (.int (va0k24_77 G)), .val (.int (7 : Int32)), .val (.int (va0k24_46b G))] [(.int (va0k24_46b G)), (.int (va0k24_77 G))])) X13 (fun t k => XS.iloadN X13.here hx rfl (hb hby d4_70) rfl k) ?_
  refine OwnFin.step (g' := (mkF m 73 #[.val (.ref o0), .val (.int (va0k24_77 G)), .val (.int (7 : Int32)), .val (.int (va0k24_46b G))] [(.int (127 : Int32)), (.int (va0k24_46b G)), (.int (va0k24_77 G))])) X13 (fun t k => XS.bipush X13.here hx rfl (hb hby d4_71) k) ?_
  refine OwnFin.step (g' := (mkF m 74 #[.val (.ref o0), .val (.int (va0k24_77 G)), .val (.int (7 : Int32)), .val (.int (va0k24_46b G))] [(.int ((va0k24_46b G) &&& (127 : Int32))), (.int (va0k24_77 G))])) X13 (fun t k => XS.iand X13.here hx rfl (hb hby d4_73) rfl k) ?_
  refine OwnFin.step (g' := (mkF m 75 #[.val (.ref o0), .val (.int (va0k24_77 G)), .val (.int (7 : Int32)), .val (.int (va0k24_46b G))] [(.int (7 : Int32)), (.int ((va0k24_46b G) &&& (127 : Int32))), (.int (va0k24_77 G))])) X13 (fun t k => XS.iloadN X13.here hx rfl (hb hby d4_74) rfl k) ?_
  refine OwnFin.step (g' := (mkF m 76 #[.val (.ref o0), .val (.int (va0k24_77 G)), .val (.int (7 : Int32)), .val (.int (va0k24_46b G))] [(.int (((va0k24_46b G) &&& (127 : Int32)) <<< ((7 : Int32) &&& 31))), (.int (va0k24_77 G))])) X13 (fun t k => XT.ishl X13.here hx rfl (hb hby d4_75) rfl k) ?_
  refine OwnFin.step (g' := (mkF m 77 #[.val (.ref o0), .val (.int (va0k24_77 G)), .val (.int (7 : Int32)), .val (.int (va0k24_46b G))] [(.int ((va0k24_77 G) ||| (((va0k24_46b G) &&& (127 : Int32)) <<< ((7 : Int32) &&& 31))))])) X13 (fun t k => XT.ior X13.here hx rfl (hb hby d4_76) rfl k) ?_
  refine OwnFin.step (g' := (mkF m 78 #[.val (.ref o0), .val (.int (va0k24_77b G)), .val (.int (7 : Int32)), .val (.int (va0k24_46b G))] [])) X13 (fun t k => XS.istoreN X13.here hx rfl (hb hby d4_77) rfl (l' := #[.val (.ref o0), .val (.int (va0k24_77b G)), .val (.int (7 : Int32)), .val (.int (va0k24_46b G))]) rfl k) ?_
  refine OwnFin.step (g' := (mkF m 79 #[.val (.ref o0), .val (.int (va0k24_77b G)), .val (.int (7 : Int32)), .val (.int (va0k24_46b G))] [(.int (va0k24_46b G))])) X13 (fun t k => XS.iloadN X13.here hx rfl (hb hby d4_78) rfl k) ?_
  refine OwnFin.step (g' := (mkF m 82 #[.val (.ref o0), .val (.int (va0k24_77b G)), .val (.int (7 : Int32)), .val (.int (va0k24_46b G))] [(.int (128 : Int32)), (.int (va0k24_46b G))])) X13 (fun t k => XS.sipush X13.here hx rfl (hb hby d4_79) k) ?_
  refine OwnFin.step (g' := (mkF m 85 #[.val (.ref o0), .val (.int (va0k24_77b G)), .val (.int (7 : Int32)), .val (.int (va0k24_46b G))] [])) X13 (fun t k => XS.icmpNo X13.here hx rfl (hb hby d4_82) rfl (tlt (bra0k24_82z G ln hln hb0 hb1)).2.1 k) ?_
  refine OwnFin.step (g' := (mkF m 86 #[.val (.ref o0), .val (.int (va0k24_77b G)), .val (.int (7 : Int32)), .val (.int (va0k24_46b G))] [(.int (va0k24_77b G))])) X13 (fun t k => XS.iloadN X13.here hx rfl (hb hby d4_85) rfl k) ?_
  refine OwnFin.retInt X13 (hb hby d4_86) (by decide) (by decide) ?_
  rw [e13]
  exact ⟨rfl, N13, (Keep.trans (Keep.trans (Keep.refl h0 [o0]) K5 (allS (Or.inl (List.mem_of_getElem? (i := 0) rfl)) all0)) K13 (allS (Or.inl (List.mem_of_getElem? (i := 0) rfl)) all0)), E15, F14, F13⟩
set_option maxRecDepth 65536 in
set_option maxHeartbeats 40000000 in
theorem rm4a0k2 (l : Launch) (Z : State) (a0 : Array Value) (hw : ∀ d ∈ tables_1, d.before a0 Z = true) (ws : List Jvm.Cond) (o0 : Addr) (ln : Nat) (G : Nat → Int32) (w_record : Addr) (h0 : Heap) (n0 : Nat) (Z0 : n0 ≤ h0.size) (E_o0 : Exa Z h0 o0 "com/example/faden/faden/rank/RecordReader") (g_o0 : n0 ≤ o0) (F_record_o0 : Fld Z h0 o0 "com/example/faden/faden/rank/RecordReader" "record" "[B" (.ref w_record)) (F_at_o0 : Fld Z h0 o0 "com/example/faden/faden/rank/RecordReader" "at" "I" (.int (0 : Int32))) (A_w_record : Ary Z h0 w_record .byte ln (fun i => .int (G i))) (ne_o0__w_record : o0 ≠ w_record) (hln : 2 ≤ ln ∧ ln < 100) (hb0 : 128 ≤ ((G 0) &&& 255).toInt) (hb1 : ((G 1) &&& 255).toInt < 128) :
    MetFree l (⟨"com/example/faden/faden/rank/RecordReader", "number", "()I"⟩ : MethodName) (head1 (Jvm.Cond.code (⟨"com/example/faden/faden/rank/RecordReader", "number", "()I"⟩ : MethodName) prog_21_method_3_code 4 (some .int) :: ws) ({ frames := 0, cells := 0, slots := 0, locals := 0 } : Room)) (fun a U => a = #[(.ref o0)] ∧ Z.Warmed39 U.vm ∧ U.heap = h0) (fun _ _ _ _ _ => True) (fun _ U o U' => ∃ v L, o = .returned v ∧ (Q4a0k2 Z o0 ln G w_record h0 n0) v U'.heap L ∧ FrameEnd U o U' L ({ frames := 0, cells := 0, slots := 0, locals := 0 } : Room).cells ({ frames := 0, cells := 0, slots := 0, locals := 0 } : Room).slots) :=
  own_met (ret := (some .int)) (Q := (Q4a0k2 Z o0 ln G w_record h0 n0)) (plainFor_of_name pn_4) (fun m => ef_4 m o0) (fun p e s m below meth c s₁ X hx hby hml hown hnm hZ e0 => j4a0k2 X hx hZ hw hby hml hown hnm e0 (Fr.nil n0) Z0 o0 ln G w_record E_o0 g_o0 F_record_o0 F_at_o0 A_w_record ne_o0__w_record hln hb0 hb1)
def va1k14_46 (G : Nat → Int32) : Int32 := ((G ((1 : Int32)).toNatClampNeg) &&& (255 : Int32))
def va1k14_77 (G : Nat → Int32) : Int32 := ((0 : Int32) ||| (((va1k14_46 G) &&& (127 : Int32)) <<< ((0 : Int32) &&& 31)))
theorem bra1k14_13 (ln : Nat) (G : Nat → Int32) (hln : 2 ≤ ln ∧ ln < 100) (hb0 : ((G 1) &&& 255).toInt < 128) : ¬ ((1 : Int32) = (ln).toInt32) := own_ne 1 (by decide) (by omega)
theorem iba1k14_41 (ln : Nat) (G : Nat → Int32) (hln : 2 ≤ ln ∧ ln < 100) (hb0 : ((G 1) &&& 255).toInt < 128) : InB (1 : Int32) ln := own_in 1 (by decide) (by omega)
theorem bra1k14_82 (G : Nat → Int32) (ln : Nat) (hln : 2 ≤ ln ∧ ln < 100) (hb0 : ((G 1) &&& 255).toInt < 128) : (va1k14_46 G) < (128 : Int32) := by
  have c0 : (128 : Int32).toInt = 128 := rfl
  have c1 : (7 : Int32).toInt = 7 := rfl
  have e0 : (va1k14_46 G).toInt = ((G 1) &&& 255).toInt := by
    unfold va1k14_46; rw [own_c1]
  rw [i32lt, e0]; omega
def Q4a1k1 (Z : State) (o0 : Addr) (ln : Nat) (G : Nat → Int32) (w_record : Addr) (h0 : Heap) (n0 : Nat) : Option Value → Heap → List Loc → Prop := fun v h L => v = some (.int (va1k14_77 G)) ∧ Fr n0 L ∧ Keep h0 h [o0] ∧ Exa Z h o0 "com/example/faden/faden/rank/RecordReader" ∧ Fld Z h o0 "com/example/faden/faden/rank/RecordReader" "record" "[B" (.ref w_record) ∧ Fld Z h o0 "com/example/faden/faden/rank/RecordReader" "at" "I" (.int (2 : Int32))
set_option maxRecDepth 65536 in
set_option maxHeartbeats 40000000 in
theorem j4a1k1 {p : Program} {l : Launch} {e : Env} {s : State} {m : MethodId} {args : Array Value} {below : List Frame} {meth : Method} {c : Code} {T0 : State} {locs : List Loc} {Z : State} {a0 : Array Value} {h0 : Heap} {n0 : Nat}
    (X0 : Stand p l e ({ frames := 0, cells := 0, slots := 0, locals := 0 } : Room) s m args below meth c T0 locs 0 0) (hx : p.tables.exec = Jvm.exec) (hZ : Z.Warmed39 s.vm) (hw : ∀ d ∈ tables_1, d.before a0 Z = true) (hby : c.code = prog_21_method_3_code) (hml : c.maxLocals = 4) (hown : s.vm.findClass "com/example/faden/faden/rank/RecordReader" = some m.cls) (hnm : meth.name = "number") (e0 : T0.heap = h0) (N0 : Fr n0 locs) (Z0 : n0 ≤ h0.size) (o0 : Addr) (ln : Nat) (G : Nat → Int32) (w_record : Addr) (E_o0 : Exa Z h0 o0 "com/example/faden/faden/rank/RecordReader") (g_o0 : n0 ≤ o0) (F_record_o0 : Fld Z h0 o0 "com/example/faden/faden/rank/RecordReader" "record" "[B" (.ref w_record)) (F_at_o0 : Fld Z h0 o0 "com/example/faden/faden/rank/RecordReader" "at" "I" (.int (1 : Int32))) (A_w_record : Ary Z h0 w_record .byte ln (fun i => .int (G i))) (ne_o0__w_record : o0 ≠ w_record) (hln : 2 ≤ ln ∧ ln < 100) (hb0 : ((G 1) &&& 255).toInt < 128) :
    OwnFin X0 (some .int) (Q4a1k1 Z o0 ln G w_record h0 n0) ({ frames := 0, cells := 0, slots := 0, locals := 0 } : Room).cells ({ frames := 0, cells := 0, slots := 0, locals := 0 } : Room).slots (mkF m 0 #[.val (.ref o0), .unset, .unset, .unset] []) := by
  refine OwnFin.step (g' := (mkF m 1 #[.val (.ref o0), .unset, .unset, .unset] [(.int (0 : Int32))])) X0 (fun t k => XS.iconst X0.here hx rfl (hb hby d4_0) k) ?_
  refine OwnFin.step (g' := (mkF m 2 #[.val (.ref o0), .val (.int (0 : Int32)), .unset, .unset] [])) X0 (fun t k => XS.istoreN X0.here hx rfl (hb hby d4_1) rfl (l' := #[.val (.ref o0), .val (.int (0 : Int32)), .unset, .unset]) rfl k) ?_
  refine OwnFin.step (g' := (mkF m 3 #[.val (.ref o0), .val (.int (0 : Int32)), .unset, .unset] [(.int (0 : Int32))])) X0 (fun t k => XS.iconst X0.here hx rfl (hb hby d4_2) k) ?_
  refine OwnFin.step (g' := (mkF m 4 #[.val (.ref o0), .val (.int (0 : Int32)), .val (.int (0 : Int32)), .unset] [])) X0 (fun t k => XS.istoreN X0.here hx rfl (hb hby d4_3) rfl (l' := #[.val (.ref o0), .val (.int (0 : Int32)), .val (.int (0 : Int32)), .unset]) rfl k) ?_
  refine OwnFin.step (g' := (mkF m 5 #[.val (.ref o0), .val (.int (0 : Int32)), .val (.int (0 : Int32)), .unset] [(.ref o0)])) X0 (fun t k => XS.aloadN X0.here hx rfl (hb hby d4_4) rfl rfl k) ?_
  obtain ⟨T1, X1, e1, st1⟩ := getF X0 hx hZ hown (host := "") (Or.inl (hw _ (wm 17 rfl))) Via.refl e0 F_at_o0 (g := (mkF m 5 #[.val (.ref o0), .val (.int (0 : Int32)), .val (.int (0 : Int32)), .unset] [(.ref o0)])) rfl rfl (hb hby d4_5)
  refine OwnFin.step (g' := (mkF m 8 #[.val (.ref o0), .val (.int (0 : Int32)), .val (.int (0 : Int32)), .unset] [(.int (1 : Int32))])) X1 (fun t k => st1 _ k) ?_
  refine OwnFin.step (g' := (mkF m 9 #[.val (.ref o0), .val (.int (0 : Int32)), .val (.int (0 : Int32)), .unset] [(.ref o0), (.int (1 : Int32))])) X1 (fun t k => XS.aloadN X1.here hx rfl (hb hby d4_8) rfl rfl k) ?_
  obtain ⟨T2, X2, e2, st2⟩ := getF X1 hx hZ hown (host := "") (Or.inl (hw _ (wm 10 rfl))) Via.refl e1 F_record_o0 (g := (mkF m 9 #[.val (.ref o0), .val (.int (0 : Int32)), .val (.int (0 : Int32)), .unset] [(.ref o0), (.int (1 : Int32))])) rfl rfl (hb hby d4_9)
  refine OwnFin.step (g' := (mkF m 12 #[.val (.ref o0), .val (.int (0 : Int32)), .val (.int (0 : Int32)), .unset] [(.ref w_record), (.int (1 : Int32))])) X2 (fun t k => st2 _ k) ?_
  refine OwnFin.step (g' := (mkF m 13 #[.val (.ref o0), .val (.int (0 : Int32)), .val (.int (0 : Int32)), .unset] [(.int (ln).toInt32), (.int (1 : Int32))])) X2 (fun t k => own_len X2 hx hZ e2 A_w_record (g := (mkF m 12 #[.val (.ref o0), .val (.int (0 : Int32)), .val (.int (0 : Int32)), .unset] [(.ref w_record), (.int (1 : Int32))])) rfl rfl (hb hby d4_12) _ k) ?_
  refine OwnFin.step (g' := (mkF m 26 #[.val (.ref o0), .val (.int (0 : Int32)), .val (.int (0 : Int32)), .unset] [])) X2 (fun t k => XS.icmpYes X2.here hx rfl (pc0 := 13) (pc' := 26) rfl (hb hby d4_13) rfl (feq (bra1k14_13 ln G hln hb0)).2 (by decide) (by decide) k) ?_
  refine OwnFin.step (g' := (mkF m 27 #[.val (.ref o0), .val (.int (0 : Int32)), .val (.int (0 : Int32)), .unset] [(.ref o0)])) X2 (fun t k => XS.aloadN X2.here hx rfl (hb hby d4_26) rfl rfl k) ?_
  obtain ⟨T3, X3, e3, st3⟩ := getF X2 hx hZ hown (host := "") (Or.inl (hw _ (wm 10 rfl))) Via.refl e2 F_record_o0 (g := (mkF m 27 #[.val (.ref o0), .val (.int (0 : Int32)), .val (.int (0 : Int32)), .unset] [(.ref o0)])) rfl rfl (hb hby d4_27)
  refine OwnFin.step (g' := (mkF m 30 #[.val (.ref o0), .val (.int (0 : Int32)), .val (.int (0 : Int32)), .unset] [(.ref w_record)])) X3 (fun t k => st3 _ k) ?_
  refine OwnFin.step (g' := (mkF m 31 #[.val (.ref o0), .val (.int (0 : Int32)), .val (.int (0 : Int32)), .unset] [(.ref o0), (.ref w_record)])) X3 (fun t k => XS.aloadN X3.here hx rfl (hb hby d4_30) rfl rfl k) ?_
  refine OwnFin.step (g' := (mkF m 32 #[.val (.ref o0), .val (.int (0 : Int32)), .val (.int (0 : Int32)), .unset] [(.ref o0), (.ref o0), (.ref w_record)])) X3 (fun t k => XS.dup X3.here hx rfl (hb hby d4_31) rfl rfl k) ?_
  obtain ⟨T4, X4, e4, st4⟩ := getF X3 hx hZ hown (host := "") (Or.inl (hw _ (wm 17 rfl))) Via.refl e3 F_at_o0 (g := (mkF m 32 #[.val (.ref o0), .val (.int (0 : Int32)), .val (.int (0 : Int32)), .unset] [(.ref o0), (.ref o0), (.ref w_record)])) rfl rfl (hb hby d4_32)
  refine OwnFin.step (g' := (mkF m 35 #[.val (.ref o0), .val (.int (0 : Int32)), .val (.int (0 : Int32)), .unset] [(.int (1 : Int32)), (.ref o0), (.ref w_record)])) X4 (fun t k => st4 _ k) ?_
  refine OwnFin.step (g' := (mkF m 36 #[.val (.ref o0), .val (.int (0 : Int32)), .val (.int (0 : Int32)), .unset] [(.int (1 : Int32)), (.ref o0), (.int (1 : Int32)), (.ref w_record)])) X4 (fun t k => XT.dupX1 X4.here hx rfl (hb hby d4_35) rfl rfl rfl k) ?_
  refine OwnFin.step (g' := (mkF m 37 #[.val (.ref o0), .val (.int (0 : Int32)), .val (.int (0 : Int32)), .unset] [(.int (1 : Int32)), (.int (1 : Int32)), (.ref o0), (.int (1 : Int32)), (.ref w_record)])) X4 (fun t k => XS.iconst X4.here hx rfl (hb hby d4_36) k) ?_
  refine OwnFin.step (g' := (mkF m 38 #[.val (.ref o0), .val (.int (0 : Int32)), .val (.int (0 : Int32)), .unset] [(.int (2 : Int32)), (.ref o0), (.int (1 : Int32)), (.ref w_record)])) X4 (fun t k => XS.iadd X4.here hx rfl (hb hby d4_37) rfl k) ?_
  obtain ⟨T5, h5, L5, X5, e5, N5, W5, F5, st5⟩ := own_putF X4 hx hZ hown (hw _ (wm 17 rfl)) e4 N0 F_at_o0 E_o0 g_o0 (Or.inl (hw _ (wm 18 rfl))) (hw _ (wm 2 rfl)) (fty := .int) (by decide) rfl rfl (g := (mkF m 38 #[.val (.ref o0), .val (.int (0 : Int32)), .val (.int (0 : Int32)), .unset] [(.int (2 : Int32)), (.ref o0), (.int (1 : Int32)), (.ref w_record)])) rfl rfl (hb hby d4_38)
  have K5 := Keep.of_wr W5
  have Z5 := Nat.le_trans Z0 K5.1
  have S5 := Nat.le_trans (Nat.le_refl h0.size) K5.1
  have F6 := Fld.other W5 F_record_o0 (Or.inr (slot_ne (Or.inr (hw _ (wm 11 rfl))) (Or.inl (hw _ (wm 18 rfl))) (by decide) (t := (.array .byte)) (t' := .int) (by decide) (by decide)))
  have E7 := Exa.wr W5 E_o0
  refine OwnFin.step (g' := (mkF m 41 #[.val (.ref o0), .val (.int (0 : Int32)), .val (.int (0 : Int32)), .unset] [(.int (1 : Int32)), (.ref w_record)])) X5 (fun t k => st5 _ k) ?_
  have A8 := (A_w_record.keep K5 (ninS (Ne.symm ne_o0__w_record) nin0))
  refine OwnFin.step (g' := (mkF m 42 #[.val (.ref o0), .val (.int (0 : Int32)), .val (.int (0 : Int32)), .unset] [(.int (G ((1 : Int32)).toNatClampNeg))])) X5 (fun t k => own_ldB X5 hx hZ e5 A8 (iba1k14_41 ln G hln hb0) rfl (g := (mkF m 41 #[.val (.ref o0), .val (.int (0 : Int32)), .val (.int (0 : Int32)), .unset] [(.int (1 : Int32)), (.ref w_record)])) rfl rfl (hb hby d4_41) _ k) ?_
  refine OwnFin.step (g' := (mkF m 45 #[.val (.ref o0), .val (.int (0 : Int32)), .val (.int (0 : Int32)), .unset] [(.int (255 : Int32)), (.int (G ((1 : Int32)).toNatClampNeg))])) X5 (fun t k => XS.sipush X5.here hx rfl (hb hby d4_42) k) ?_
  refine OwnFin.step (g' := (mkF m 46 #[.val (.ref o0), .val (.int (0 : Int32)), .val (.int (0 : Int32)), .unset] [(.int ((G ((1 : Int32)).toNatClampNeg) &&& (255 : Int32)))])) X5 (fun t k => XS.iand X5.here hx rfl (hb hby d4_45) rfl k) ?_
  refine OwnFin.step (g' := (mkF m 47 #[.val (.ref o0), .val (.int (0 : Int32)), .val (.int (0 : Int32)), .val (.int (va1k14_46 G))] [])) X5 (fun t k => XS.istoreN X5.here hx rfl (hb hby d4_46) rfl (l' := #[.val (.ref o0), .val (.int (0 : Int32)), .val (.int (0 : Int32)), .val (.int (va1k14_46 G))]) rfl k) ?_
  refine OwnFin.step (g' := (mkF m 48 #[.val (.ref o0), .val (.int (0 : Int32)), .val (.int (0 : Int32)), .val (.int (va1k14_46 G))] [(.int (0 : Int32))])) X5 (fun t k => XS.iloadN X5.here hx rfl (hb hby d4_47) rfl k) ?_
  refine OwnFin.step (g' := (mkF m 50 #[.val (.ref o0), .val (.int (0 : Int32)), .val (.int (0 : Int32)), .val (.int (va1k14_46 G))] [(.int (28 : Int32)), (.int (0 : Int32))])) X5 (fun t k => XS.bipush X5.here hx rfl (hb hby d4_48) k) ?_
  refine OwnFin.step (g' := (mkF m 69 #[.val (.ref o0), .val (.int (0 : Int32)), .val (.int (0 : Int32)), .val (.int (va1k14_46 G))] [])) X5 (fun t k => XS.icmpYes X5.here hx rfl (pc0 := 50) (pc' := 69) rfl (hb hby d4_50) rfl (feq (by decide)).2 (by decide) (by decide) k) ?_
  refine OwnFin.step (g' := (mkF m 70 #[.val (.ref o0), .val (.int (0 : Int32)), .val (.int (0 : Int32)), .val (.int (va1k14_46 G))] [(.int (0 : Int32))])) X5 (fun t k => XS.iloadN X5.here hx rfl (hb hby d4_69) rfl k) ?_
  refine OwnFin.step (g' := (mkF m 71 #[.val (.ref o0), .val (.int (0 : Int32)), .val (.int (0 : Int32)), .val (.int (va1k14_46 G))] [(.int (va1k14_46 G)), (.int (0 : Int32))])) X5 (fun t k => XS.iloadN X5.here hx rfl (hb hby d4_70) rfl k) ?_
  refine OwnFin.step (g' := (mkF m 73 #[.val (.ref o0), .val (.int (0 : Int32)), .val (.int (0 : Int32)), .val (.int (va1k14_46 G))] [(.int (127 : Int32)), (.int (va1k14_46 G)), (.int (0 : Int32))])) X5 (fun t k => XS.bipush X5.here hx rfl (hb hby d4_71) k) ?_
  refine OwnFin.step (g' := (mkF m 74 #[.val (.ref o0), .val (.int (0 : Int32)), .val (.int (0 : Int32)), .val (.int (va1k14_46 G))] [(.int ((va1k14_46 G) &&& (127 : Int32))), (.int (0 : Int32))])) X5 (fun t k => XS.iand X5.here hx rfl (hb hby d4_73) rfl k) ?_
  refine OwnFin.step (g' := (mkF m 75 #[.val (.ref o0), .val (.int (0 : Int32)), .val (.int (0 : Int32)), .val (.int (va1k14_46 G))] [(.int (0 : Int32)), (.int ((va1k14_46 G) &&& (127 : Int32))), (.int (0 : Int32))])) X5 (fun t k => XS.iloadN X5.here hx rfl (hb hby d4_74) rfl k) ?_
  refine OwnFin.step (g' := (mkF m 76 #[.val (.ref o0), .val (.int (0 : Int32)), .val (.int (0 : Int32)), .val (.int (va1k14_46 G))] [(.int (((va1k14_46 G) &&& (127 : Int32)) <<< ((0 : Int32) &&& 31))), (.int (0 : Int32))])) X5 (fun t k => XT.ishl X5.here hx rfl (hb hby d4_75) rfl k) ?_
  refine OwnFin.step (g' := (mkF m 77 #[.val (.ref o0), .val (.int (0 : Int32)), .val (.int (0 : Int32)), .val (.int (va1k14_46 G))] [(.int ((0 : Int32) ||| (((va1k14_46 G) &&& (127 : Int32)) <<< ((0 : Int32) &&& 31))))])) X5 (fun t k => XT.ior X5.here hx rfl (hb hby d4_76) rfl k) ?_
  refine OwnFin.step (g' := (mkF m 78 #[.val (.ref o0), .val (.int (va1k14_77 G)), .val (.int (0 : Int32)), .val (.int (va1k14_46 G))] [])) X5 (fun t k => XS.istoreN X5.here hx rfl (hb hby d4_77) rfl (l' := #[.val (.ref o0), .val (.int (va1k14_77 G)), .val (.int (0 : Int32)), .val (.int (va1k14_46 G))]) rfl k) ?_
  refine OwnFin.step (g' := (mkF m 79 #[.val (.ref o0), .val (.int (va1k14_77 G)), .val (.int (0 : Int32)), .val (.int (va1k14_46 G))] [(.int (va1k14_46 G))])) X5 (fun t k => XS.iloadN X5.here hx rfl (hb hby d4_78) rfl k) ?_
  refine OwnFin.step (g' := (mkF m 82 #[.val (.ref o0), .val (.int (va1k14_77 G)), .val (.int (0 : Int32)), .val (.int (va1k14_46 G))] [(.int (128 : Int32)), (.int (va1k14_46 G))])) X5 (fun t k => XS.sipush X5.here hx rfl (hb hby d4_79) k) ?_
  refine OwnFin.step (g' := (mkF m 85 #[.val (.ref o0), .val (.int (va1k14_77 G)), .val (.int (0 : Int32)), .val (.int (va1k14_46 G))] [])) X5 (fun t k => XS.icmpNo X5.here hx rfl (hb hby d4_82) rfl (tlt (bra1k14_82 G ln hln hb0)).2.1 k) ?_
  refine OwnFin.step (g' := (mkF m 86 #[.val (.ref o0), .val (.int (va1k14_77 G)), .val (.int (0 : Int32)), .val (.int (va1k14_46 G))] [(.int (va1k14_77 G))])) X5 (fun t k => XS.iloadN X5.here hx rfl (hb hby d4_85) rfl k) ?_
  refine OwnFin.retInt X5 (hb hby d4_86) (by decide) (by decide) ?_
  rw [e5]
  exact ⟨rfl, N5, (Keep.trans (Keep.refl h0 [o0]) K5 (allS (Or.inl (List.mem_of_getElem? (i := 0) rfl)) all0)), E7, F6, F5⟩
set_option maxRecDepth 65536 in
set_option maxHeartbeats 40000000 in
theorem rm4a1k1 (l : Launch) (Z : State) (a0 : Array Value) (hw : ∀ d ∈ tables_1, d.before a0 Z = true) (ws : List Jvm.Cond) (o0 : Addr) (ln : Nat) (G : Nat → Int32) (w_record : Addr) (h0 : Heap) (n0 : Nat) (Z0 : n0 ≤ h0.size) (E_o0 : Exa Z h0 o0 "com/example/faden/faden/rank/RecordReader") (g_o0 : n0 ≤ o0) (F_record_o0 : Fld Z h0 o0 "com/example/faden/faden/rank/RecordReader" "record" "[B" (.ref w_record)) (F_at_o0 : Fld Z h0 o0 "com/example/faden/faden/rank/RecordReader" "at" "I" (.int (1 : Int32))) (A_w_record : Ary Z h0 w_record .byte ln (fun i => .int (G i))) (ne_o0__w_record : o0 ≠ w_record) (hln : 2 ≤ ln ∧ ln < 100) (hb0 : ((G 1) &&& 255).toInt < 128) :
    MetFree l (⟨"com/example/faden/faden/rank/RecordReader", "number", "()I"⟩ : MethodName) (head1 (Jvm.Cond.code (⟨"com/example/faden/faden/rank/RecordReader", "number", "()I"⟩ : MethodName) prog_21_method_3_code 4 (some .int) :: ws) ({ frames := 0, cells := 0, slots := 0, locals := 0 } : Room)) (fun a U => a = #[(.ref o0)] ∧ Z.Warmed39 U.vm ∧ U.heap = h0) (fun _ _ _ _ _ => True) (fun _ U o U' => ∃ v L, o = .returned v ∧ (Q4a1k1 Z o0 ln G w_record h0 n0) v U'.heap L ∧ FrameEnd U o U' L ({ frames := 0, cells := 0, slots := 0, locals := 0 } : Room).cells ({ frames := 0, cells := 0, slots := 0, locals := 0 } : Room).slots) :=
  own_met (ret := (some .int)) (Q := (Q4a1k1 Z o0 ln G w_record h0 n0)) (plainFor_of_name pn_4) (fun m => ef_4 m o0) (fun p e s m below meth c s₁ X hx hby hml hown hnm hZ e0 => j4a1k1 X hx hZ hw hby hml hown hnm e0 (Fr.nil n0) Z0 o0 ln G w_record E_o0 g_o0 F_record_o0 F_at_o0 A_w_record ne_o0__w_record hln hb0)
def va2k14_46 (G : Nat → Int32) : Int32 := ((G ((2 : Int32)).toNatClampNeg) &&& (255 : Int32))
def va2k14_77 (G : Nat → Int32) : Int32 := ((0 : Int32) ||| (((va2k14_46 G) &&& (127 : Int32)) <<< ((0 : Int32) &&& 31)))
theorem bra2k14_13 (ln : Nat) (G : Nat → Int32) (hln : 3 ≤ ln ∧ ln < 100) (hb0 : ((G 2) &&& 255).toInt < 128) : ¬ ((2 : Int32) = (ln).toInt32) := own_ne 2 (by decide) (by omega)
theorem iba2k14_41 (ln : Nat) (G : Nat → Int32) (hln : 3 ≤ ln ∧ ln < 100) (hb0 : ((G 2) &&& 255).toInt < 128) : InB (2 : Int32) ln := own_in 2 (by decide) (by omega)
theorem bra2k14_82 (G : Nat → Int32) (ln : Nat) (hln : 3 ≤ ln ∧ ln < 100) (hb0 : ((G 2) &&& 255).toInt < 128) : (va2k14_46 G) < (128 : Int32) := by
  have c0 : (128 : Int32).toInt = 128 := rfl
  have c1 : (7 : Int32).toInt = 7 := rfl
  have e0 : (va2k14_46 G).toInt = ((G 2) &&& 255).toInt := by
    unfold va2k14_46; rw [own_c2]
  rw [i32lt, e0]; omega
def Q4a2k1 (Z : State) (o0 : Addr) (ln : Nat) (G : Nat → Int32) (w_record : Addr) (h0 : Heap) (n0 : Nat) : Option Value → Heap → List Loc → Prop := fun v h L => v = some (.int (va2k14_77 G)) ∧ Fr n0 L ∧ Keep h0 h [o0] ∧ Exa Z h o0 "com/example/faden/faden/rank/RecordReader" ∧ Fld Z h o0 "com/example/faden/faden/rank/RecordReader" "record" "[B" (.ref w_record) ∧ Fld Z h o0 "com/example/faden/faden/rank/RecordReader" "at" "I" (.int (3 : Int32))
set_option maxRecDepth 65536 in
set_option maxHeartbeats 40000000 in
theorem j4a2k1 {p : Program} {l : Launch} {e : Env} {s : State} {m : MethodId} {args : Array Value} {below : List Frame} {meth : Method} {c : Code} {T0 : State} {locs : List Loc} {Z : State} {a0 : Array Value} {h0 : Heap} {n0 : Nat}
    (X0 : Stand p l e ({ frames := 0, cells := 0, slots := 0, locals := 0 } : Room) s m args below meth c T0 locs 0 0) (hx : p.tables.exec = Jvm.exec) (hZ : Z.Warmed39 s.vm) (hw : ∀ d ∈ tables_1, d.before a0 Z = true) (hby : c.code = prog_21_method_3_code) (hml : c.maxLocals = 4) (hown : s.vm.findClass "com/example/faden/faden/rank/RecordReader" = some m.cls) (hnm : meth.name = "number") (e0 : T0.heap = h0) (N0 : Fr n0 locs) (Z0 : n0 ≤ h0.size) (o0 : Addr) (ln : Nat) (G : Nat → Int32) (w_record : Addr) (E_o0 : Exa Z h0 o0 "com/example/faden/faden/rank/RecordReader") (g_o0 : n0 ≤ o0) (F_record_o0 : Fld Z h0 o0 "com/example/faden/faden/rank/RecordReader" "record" "[B" (.ref w_record)) (F_at_o0 : Fld Z h0 o0 "com/example/faden/faden/rank/RecordReader" "at" "I" (.int (2 : Int32))) (A_w_record : Ary Z h0 w_record .byte ln (fun i => .int (G i))) (ne_o0__w_record : o0 ≠ w_record) (hln : 3 ≤ ln ∧ ln < 100) (hb0 : ((G 2) &&& 255).toInt < 128) :
    OwnFin X0 (some .int) (Q4a2k1 Z o0 ln G w_record h0 n0) ({ frames := 0, cells := 0, slots := 0, locals := 0 } : Room).cells ({ frames := 0, cells := 0, slots := 0, locals := 0 } : Room).slots (mkF m 0 #[.val (.ref o0), .unset, .unset, .unset] []) := by
  refine OwnFin.step (g' := (mkF m 1 #[.val (.ref o0), .unset, .unset, .unset] [(.int (0 : Int32))])) X0 (fun t k => XS.iconst X0.here hx rfl (hb hby d4_0) k) ?_
  refine OwnFin.step (g' := (mkF m 2 #[.val (.ref o0), .val (.int (0 : Int32)), .unset, .unset] [])) X0 (fun t k => XS.istoreN X0.here hx rfl (hb hby d4_1) rfl (l' := #[.val (.ref o0), .val (.int (0 : Int32)), .unset, .unset]) rfl k) ?_
  refine OwnFin.step (g' := (mkF m 3 #[.val (.ref o0), .val (.int (0 : Int32)), .unset, .unset] [(.int (0 : Int32))])) X0 (fun t k => XS.iconst X0.here hx rfl (hb hby d4_2) k) ?_
  refine OwnFin.step (g' := (mkF m 4 #[.val (.ref o0), .val (.int (0 : Int32)), .val (.int (0 : Int32)), .unset] [])) X0 (fun t k => XS.istoreN X0.here hx rfl (hb hby d4_3) rfl (l' := #[.val (.ref o0), .val (.int (0 : Int32)), .val (.int (0 : Int32)), .unset]) rfl k) ?_
  refine OwnFin.step (g' := (mkF m 5 #[.val (.ref o0), .val (.int (0 : Int32)), .val (.int (0 : Int32)), .unset] [(.ref o0)])) X0 (fun t k => XS.aloadN X0.here hx rfl (hb hby d4_4) rfl rfl k) ?_
  obtain ⟨T1, X1, e1, st1⟩ := getF X0 hx hZ hown (host := "") (Or.inl (hw _ (wm 17 rfl))) Via.refl e0 F_at_o0 (g := (mkF m 5 #[.val (.ref o0), .val (.int (0 : Int32)), .val (.int (0 : Int32)), .unset] [(.ref o0)])) rfl rfl (hb hby d4_5)
  refine OwnFin.step (g' := (mkF m 8 #[.val (.ref o0), .val (.int (0 : Int32)), .val (.int (0 : Int32)), .unset] [(.int (2 : Int32))])) X1 (fun t k => st1 _ k) ?_
  refine OwnFin.step (g' := (mkF m 9 #[.val (.ref o0), .val (.int (0 : Int32)), .val (.int (0 : Int32)), .unset] [(.ref o0), (.int (2 : Int32))])) X1 (fun t k => XS.aloadN X1.here hx rfl (hb hby d4_8) rfl rfl k) ?_
  obtain ⟨T2, X2, e2, st2⟩ := getF X1 hx hZ hown (host := "") (Or.inl (hw _ (wm 10 rfl))) Via.refl e1 F_record_o0 (g := (mkF m 9 #[.val (.ref o0), .val (.int (0 : Int32)), .val (.int (0 : Int32)), .unset] [(.ref o0), (.int (2 : Int32))])) rfl rfl (hb hby d4_9)
  refine OwnFin.step (g' := (mkF m 12 #[.val (.ref o0), .val (.int (0 : Int32)), .val (.int (0 : Int32)), .unset] [(.ref w_record), (.int (2 : Int32))])) X2 (fun t k => st2 _ k) ?_
  refine OwnFin.step (g' := (mkF m 13 #[.val (.ref o0), .val (.int (0 : Int32)), .val (.int (0 : Int32)), .unset] [(.int (ln).toInt32), (.int (2 : Int32))])) X2 (fun t k => own_len X2 hx hZ e2 A_w_record (g := (mkF m 12 #[.val (.ref o0), .val (.int (0 : Int32)), .val (.int (0 : Int32)), .unset] [(.ref w_record), (.int (2 : Int32))])) rfl rfl (hb hby d4_12) _ k) ?_
  refine OwnFin.step (g' := (mkF m 26 #[.val (.ref o0), .val (.int (0 : Int32)), .val (.int (0 : Int32)), .unset] [])) X2 (fun t k => XS.icmpYes X2.here hx rfl (pc0 := 13) (pc' := 26) rfl (hb hby d4_13) rfl (feq (bra2k14_13 ln G hln hb0)).2 (by decide) (by decide) k) ?_
  refine OwnFin.step (g' := (mkF m 27 #[.val (.ref o0), .val (.int (0 : Int32)), .val (.int (0 : Int32)), .unset] [(.ref o0)])) X2 (fun t k => XS.aloadN X2.here hx rfl (hb hby d4_26) rfl rfl k) ?_
  obtain ⟨T3, X3, e3, st3⟩ := getF X2 hx hZ hown (host := "") (Or.inl (hw _ (wm 10 rfl))) Via.refl e2 F_record_o0 (g := (mkF m 27 #[.val (.ref o0), .val (.int (0 : Int32)), .val (.int (0 : Int32)), .unset] [(.ref o0)])) rfl rfl (hb hby d4_27)
  refine OwnFin.step (g' := (mkF m 30 #[.val (.ref o0), .val (.int (0 : Int32)), .val (.int (0 : Int32)), .unset] [(.ref w_record)])) X3 (fun t k => st3 _ k) ?_
  refine OwnFin.step (g' := (mkF m 31 #[.val (.ref o0), .val (.int (0 : Int32)), .val (.int (0 : Int32)), .unset] [(.ref o0), (.ref w_record)])) X3 (fun t k => XS.aloadN X3.here hx rfl (hb hby d4_30) rfl rfl k) ?_
  refine OwnFin.step (g' := (mkF m 32 #[.val (.ref o0), .val (.int (0 : Int32)), .val (.int (0 : Int32)), .unset] [(.ref o0), (.ref o0), (.ref w_record)])) X3 (fun t k => XS.dup X3.here hx rfl (hb hby d4_31) rfl rfl k) ?_
  obtain ⟨T4, X4, e4, st4⟩ := getF X3 hx hZ hown (host := "") (Or.inl (hw _ (wm 17 rfl))) Via.refl e3 F_at_o0 (g := (mkF m 32 #[.val (.ref o0), .val (.int (0 : Int32)), .val (.int (0 : Int32)), .unset] [(.ref o0), (.ref o0), (.ref w_record)])) rfl rfl (hb hby d4_32)
  refine OwnFin.step (g' := (mkF m 35 #[.val (.ref o0), .val (.int (0 : Int32)), .val (.int (0 : Int32)), .unset] [(.int (2 : Int32)), (.ref o0), (.ref w_record)])) X4 (fun t k => st4 _ k) ?_
  refine OwnFin.step (g' := (mkF m 36 #[.val (.ref o0), .val (.int (0 : Int32)), .val (.int (0 : Int32)), .unset] [(.int (2 : Int32)), (.ref o0), (.int (2 : Int32)), (.ref w_record)])) X4 (fun t k => XT.dupX1 X4.here hx rfl (hb hby d4_35) rfl rfl rfl k) ?_
  refine OwnFin.step (g' := (mkF m 37 #[.val (.ref o0), .val (.int (0 : Int32)), .val (.int (0 : Int32)), .unset] [(.int (1 : Int32)), (.int (2 : Int32)), (.ref o0), (.int (2 : Int32)), (.ref w_record)])) X4 (fun t k => XS.iconst X4.here hx rfl (hb hby d4_36) k) ?_
  refine OwnFin.step (g' := (mkF m 38 #[.val (.ref o0), .val (.int (0 : Int32)), .val (.int (0 : Int32)), .unset] [(.int (3 : Int32)), (.ref o0), (.int (2 : Int32)), (.ref w_record)])) X4 (fun t k => XS.iadd X4.here hx rfl (hb hby d4_37) rfl k) ?_
  obtain ⟨T5, h5, L5, X5, e5, N5, W5, F5, st5⟩ := own_putF X4 hx hZ hown (hw _ (wm 17 rfl)) e4 N0 F_at_o0 E_o0 g_o0 (Or.inl (hw _ (wm 18 rfl))) (hw _ (wm 2 rfl)) (fty := .int) (by decide) rfl rfl (g := (mkF m 38 #[.val (.ref o0), .val (.int (0 : Int32)), .val (.int (0 : Int32)), .unset] [(.int (3 : Int32)), (.ref o0), (.int (2 : Int32)), (.ref w_record)])) rfl rfl (hb hby d4_38)
  have K5 := Keep.of_wr W5
  have Z5 := Nat.le_trans Z0 K5.1
  have S5 := Nat.le_trans (Nat.le_refl h0.size) K5.1
  have F6 := Fld.other W5 F_record_o0 (Or.inr (slot_ne (Or.inr (hw _ (wm 11 rfl))) (Or.inl (hw _ (wm 18 rfl))) (by decide) (t := (.array .byte)) (t' := .int) (by decide) (by decide)))
  have E7 := Exa.wr W5 E_o0
  refine OwnFin.step (g' := (mkF m 41 #[.val (.ref o0), .val (.int (0 : Int32)), .val (.int (0 : Int32)), .unset] [(.int (2 : Int32)), (.ref w_record)])) X5 (fun t k => st5 _ k) ?_
  have A8 := (A_w_record.keep K5 (ninS (Ne.symm ne_o0__w_record) nin0))
  refine OwnFin.step (g' := (mkF m 42 #[.val (.ref o0), .val (.int (0 : Int32)), .val (.int (0 : Int32)), .unset] [(.int (G ((2 : Int32)).toNatClampNeg))])) X5 (fun t k => own_ldB X5 hx hZ e5 A8 (iba2k14_41 ln G hln hb0) rfl (g := (mkF m 41 #[.val (.ref o0), .val (.int (0 : Int32)), .val (.int (0 : Int32)), .unset] [(.int (2 : Int32)), (.ref w_record)])) rfl rfl (hb hby d4_41) _ k) ?_
  refine OwnFin.step (g' := (mkF m 45 #[.val (.ref o0), .val (.int (0 : Int32)), .val (.int (0 : Int32)), .unset] [(.int (255 : Int32)), (.int (G ((2 : Int32)).toNatClampNeg))])) X5 (fun t k => XS.sipush X5.here hx rfl (hb hby d4_42) k) ?_
  refine OwnFin.step (g' := (mkF m 46 #[.val (.ref o0), .val (.int (0 : Int32)), .val (.int (0 : Int32)), .unset] [(.int ((G ((2 : Int32)).toNatClampNeg) &&& (255 : Int32)))])) X5 (fun t k => XS.iand X5.here hx rfl (hb hby d4_45) rfl k) ?_
  refine OwnFin.step (g' := (mkF m 47 #[.val (.ref o0), .val (.int (0 : Int32)), .val (.int (0 : Int32)), .val (.int (va2k14_46 G))] [])) X5 (fun t k => XS.istoreN X5.here hx rfl (hb hby d4_46) rfl (l' := #[.val (.ref o0), .val (.int (0 : Int32)), .val (.int (0 : Int32)), .val (.int (va2k14_46 G))]) rfl k) ?_
  refine OwnFin.step (g' := (mkF m 48 #[.val (.ref o0), .val (.int (0 : Int32)), .val (.int (0 : Int32)), .val (.int (va2k14_46 G))] [(.int (0 : Int32))])) X5 (fun t k => XS.iloadN X5.here hx rfl (hb hby d4_47) rfl k) ?_
  refine OwnFin.step (g' := (mkF m 50 #[.val (.ref o0), .val (.int (0 : Int32)), .val (.int (0 : Int32)), .val (.int (va2k14_46 G))] [(.int (28 : Int32)), (.int (0 : Int32))])) X5 (fun t k => XS.bipush X5.here hx rfl (hb hby d4_48) k) ?_
  refine OwnFin.step (g' := (mkF m 69 #[.val (.ref o0), .val (.int (0 : Int32)), .val (.int (0 : Int32)), .val (.int (va2k14_46 G))] [])) X5 (fun t k => XS.icmpYes X5.here hx rfl (pc0 := 50) (pc' := 69) rfl (hb hby d4_50) rfl (feq (by decide)).2 (by decide) (by decide) k) ?_
  refine OwnFin.step (g' := (mkF m 70 #[.val (.ref o0), .val (.int (0 : Int32)), .val (.int (0 : Int32)), .val (.int (va2k14_46 G))] [(.int (0 : Int32))])) X5 (fun t k => XS.iloadN X5.here hx rfl (hb hby d4_69) rfl k) ?_
  refine OwnFin.step (g' := (mkF m 71 #[.val (.ref o0), .val (.int (0 : Int32)), .val (.int (0 : Int32)), .val (.int (va2k14_46 G))] [(.int (va2k14_46 G)), (.int (0 : Int32))])) X5 (fun t k => XS.iloadN X5.here hx rfl (hb hby d4_70) rfl k) ?_
  refine OwnFin.step (g' := (mkF m 73 #[.val (.ref o0), .val (.int (0 : Int32)), .val (.int (0 : Int32)), .val (.int (va2k14_46 G))] [(.int (127 : Int32)), (.int (va2k14_46 G)), (.int (0 : Int32))])) X5 (fun t k => XS.bipush X5.here hx rfl (hb hby d4_71) k) ?_
  refine OwnFin.step (g' := (mkF m 74 #[.val (.ref o0), .val (.int (0 : Int32)), .val (.int (0 : Int32)), .val (.int (va2k14_46 G))] [(.int ((va2k14_46 G) &&& (127 : Int32))), (.int (0 : Int32))])) X5 (fun t k => XS.iand X5.here hx rfl (hb hby d4_73) rfl k) ?_
  refine OwnFin.step (g' := (mkF m 75 #[.val (.ref o0), .val (.int (0 : Int32)), .val (.int (0 : Int32)), .val (.int (va2k14_46 G))] [(.int (0 : Int32)), (.int ((va2k14_46 G) &&& (127 : Int32))), (.int (0 : Int32))])) X5 (fun t k => XS.iloadN X5.here hx rfl (hb hby d4_74) rfl k) ?_
  refine OwnFin.step (g' := (mkF m 76 #[.val (.ref o0), .val (.int (0 : Int32)), .val (.int (0 : Int32)), .val (.int (va2k14_46 G))] [(.int (((va2k14_46 G) &&& (127 : Int32)) <<< ((0 : Int32) &&& 31))), (.int (0 : Int32))])) X5 (fun t k => XT.ishl X5.here hx rfl (hb hby d4_75) rfl k) ?_
  refine OwnFin.step (g' := (mkF m 77 #[.val (.ref o0), .val (.int (0 : Int32)), .val (.int (0 : Int32)), .val (.int (va2k14_46 G))] [(.int ((0 : Int32) ||| (((va2k14_46 G) &&& (127 : Int32)) <<< ((0 : Int32) &&& 31))))])) X5 (fun t k => XT.ior X5.here hx rfl (hb hby d4_76) rfl k) ?_
  refine OwnFin.step (g' := (mkF m 78 #[.val (.ref o0), .val (.int (va2k14_77 G)), .val (.int (0 : Int32)), .val (.int (va2k14_46 G))] [])) X5 (fun t k => XS.istoreN X5.here hx rfl (hb hby d4_77) rfl (l' := #[.val (.ref o0), .val (.int (va2k14_77 G)), .val (.int (0 : Int32)), .val (.int (va2k14_46 G))]) rfl k) ?_
  refine OwnFin.step (g' := (mkF m 79 #[.val (.ref o0), .val (.int (va2k14_77 G)), .val (.int (0 : Int32)), .val (.int (va2k14_46 G))] [(.int (va2k14_46 G))])) X5 (fun t k => XS.iloadN X5.here hx rfl (hb hby d4_78) rfl k) ?_
  refine OwnFin.step (g' := (mkF m 82 #[.val (.ref o0), .val (.int (va2k14_77 G)), .val (.int (0 : Int32)), .val (.int (va2k14_46 G))] [(.int (128 : Int32)), (.int (va2k14_46 G))])) X5 (fun t k => XS.sipush X5.here hx rfl (hb hby d4_79) k) ?_
  refine OwnFin.step (g' := (mkF m 85 #[.val (.ref o0), .val (.int (va2k14_77 G)), .val (.int (0 : Int32)), .val (.int (va2k14_46 G))] [])) X5 (fun t k => XS.icmpNo X5.here hx rfl (hb hby d4_82) rfl (tlt (bra2k14_82 G ln hln hb0)).2.1 k) ?_
  refine OwnFin.step (g' := (mkF m 86 #[.val (.ref o0), .val (.int (va2k14_77 G)), .val (.int (0 : Int32)), .val (.int (va2k14_46 G))] [(.int (va2k14_77 G))])) X5 (fun t k => XS.iloadN X5.here hx rfl (hb hby d4_85) rfl k) ?_
  refine OwnFin.retInt X5 (hb hby d4_86) (by decide) (by decide) ?_
  rw [e5]
  exact ⟨rfl, N5, (Keep.trans (Keep.refl h0 [o0]) K5 (allS (Or.inl (List.mem_of_getElem? (i := 0) rfl)) all0)), E7, F6, F5⟩
set_option maxRecDepth 65536 in
set_option maxHeartbeats 40000000 in
theorem rm4a2k1 (l : Launch) (Z : State) (a0 : Array Value) (hw : ∀ d ∈ tables_1, d.before a0 Z = true) (ws : List Jvm.Cond) (o0 : Addr) (ln : Nat) (G : Nat → Int32) (w_record : Addr) (h0 : Heap) (n0 : Nat) (Z0 : n0 ≤ h0.size) (E_o0 : Exa Z h0 o0 "com/example/faden/faden/rank/RecordReader") (g_o0 : n0 ≤ o0) (F_record_o0 : Fld Z h0 o0 "com/example/faden/faden/rank/RecordReader" "record" "[B" (.ref w_record)) (F_at_o0 : Fld Z h0 o0 "com/example/faden/faden/rank/RecordReader" "at" "I" (.int (2 : Int32))) (A_w_record : Ary Z h0 w_record .byte ln (fun i => .int (G i))) (ne_o0__w_record : o0 ≠ w_record) (hln : 3 ≤ ln ∧ ln < 100) (hb0 : ((G 2) &&& 255).toInt < 128) :
    MetFree l (⟨"com/example/faden/faden/rank/RecordReader", "number", "()I"⟩ : MethodName) (head1 (Jvm.Cond.code (⟨"com/example/faden/faden/rank/RecordReader", "number", "()I"⟩ : MethodName) prog_21_method_3_code 4 (some .int) :: ws) ({ frames := 0, cells := 0, slots := 0, locals := 0 } : Room)) (fun a U => a = #[(.ref o0)] ∧ Z.Warmed39 U.vm ∧ U.heap = h0) (fun _ _ _ _ _ => True) (fun _ U o U' => ∃ v L, o = .returned v ∧ (Q4a2k1 Z o0 ln G w_record h0 n0) v U'.heap L ∧ FrameEnd U o U' L ({ frames := 0, cells := 0, slots := 0, locals := 0 } : Room).cells ({ frames := 0, cells := 0, slots := 0, locals := 0 } : Room).slots) :=
  own_met (ret := (some .int)) (Q := (Q4a2k1 Z o0 ln G w_record h0 n0)) (plainFor_of_name pn_4) (fun m => ef_4 m o0) (fun p e s m below meth c s₁ X hx hby hml hown hnm hZ e0 => j4a2k1 X hx hZ hw hby hml hown hnm e0 (Fr.nil n0) Z0 o0 ln G w_record E_o0 g_o0 F_record_o0 F_at_o0 A_w_record ne_o0__w_record hln hb0)
theorem pn_0 : plainName "com/example/faden/faden/rank/RecordReaderAtEndPinLaw" = true := by first | (simp [plainName, overriddenIn]; done) | decide +kernel
theorem ef_0 (m : MethodId) (p0 : Int32) (p1 : Int32) (p2 : Int32) (p3 : Int32) : entryFrame m #[(.int p0), (.int p1), (.int p2), (.int p3)] maxLocals = mkF m 0 #[.val (.int p0), .val (.int p1), .val (.int p2), .val (.int p3), .unset, .unset, .unset, .unset, .unset, .unset] [] := by first | (simp [entryFrame, mkF, argsToLocals, Value.category, maxLocals]; done) | rfl
theorem pd_0 : parseMethodDescriptor "([B)V" = some ⟨[(.array .byte)], none⟩ := by decide +kernel
theorem pd_1 : parseMethodDescriptor "()Z" = some ⟨[], some .boolean⟩ := by decide +kernel
def vn0c00_3 (p3 : Int32) : Int32 := (p3 &&& (3 : Int32))
abbrev Lan0c00_0 (p0 : Int32) (p1 : Int32) (p2 : Int32) (p3 : Int32) : Array Slot := #[.val (.int p0), .val (.int p1), .val (.int p2), .val (.int p3), .unset, .unset, .unset, .unset, .unset, .unset]
abbrev Lan0c00_1 (p0 : Int32) (p1 : Int32) (p2 : Int32) (p3 : Int32) : Array Slot := #[.val (.int p0), .val (.int p1), .val (.int p2), .val (.int p3), .val (.int (0 : Int32)), .unset, .unset, .unset, .unset, .unset]
abbrev Lan0c00_2 (p0 : Int32) (p1 : Int32) (p2 : Int32) (p3 : Int32) : Array Slot := #[.val (.int p0), .val (.int p1), .val (.int p2), .val (.int p3), .val (.int (0 : Int32)), .val (.int (0 : Int32)), .unset, .unset, .unset, .unset]
abbrev Lan0c00_3 (p0 : Int32) (p1 : Int32) (p2 : Int32) (p3 : Int32) (b2 : Addr) : Array Slot := #[.val (.int p0), .val (.int p1), .val (.int p2), .val (.int p3), .val (.int (0 : Int32)), .val (.int (0 : Int32)), .val (.ref b2), .unset, .unset, .unset]
abbrev Lan0c00_4 (p0 : Int32) (p1 : Int32) (p2 : Int32) (p3 : Int32) (b2 : Addr) (b3 : Addr) : Array Slot := #[.val (.int p0), .val (.int p1), .val (.int p2), .val (.int p3), .val (.int (0 : Int32)), .val (.int (0 : Int32)), .val (.ref b2), .val (.ref b3), .unset, .unset]
abbrev Lan0c00_5 (p0 : Int32) (p1 : Int32) (p2 : Int32) (p3 : Int32) (b2 : Addr) (b3 : Addr) : Array Slot := #[.val (.int p0), .val (.int p1), .val (.int p2), .val (.int p3), .val (.int (0 : Int32)), .val (.int (0 : Int32)), .val (.ref b2), .val (.ref b3), .val (.int (1 : Int32)), .unset]
abbrev Lan0c00_6 (p0 : Int32) (p1 : Int32) (p2 : Int32) (p3 : Int32) (b2 : Addr) (b3 : Addr) : Array Slot := #[.val (.int p0), .val (.int p1), .val (.int p2), .val (.int p3), .val (.int (0 : Int32)), .val (.int (0 : Int32)), .val (.ref b2), .val (.ref b3), .val (.int (1 : Int32)), .val (.int (0 : Int32))]
set_option maxRecDepth 65536 in
set_option maxHeartbeats 40000000 in
theorem j0n0c0 {p : Program} {l : Launch} {e : Env} {s : State} {m : MethodId} {args : Array Value} {below : List Frame} {meth : Method} {c : Code} {T0 : State} {locs : List Loc} {Z : State} {a0 : Array Value} {h0 : Heap} {n0 : Nat}
    (X0 : Stand p l e room_1 s m args below meth c T0 locs 0 0) (hx : p.tables.exec = Jvm.exec) (hZ : Z.Warmed39 s.vm) (hw : ∀ d ∈ tables_1, d.before a0 Z = true) (hby : c.code = code) (hml : c.maxLocals = 10) (hown : s.vm.findClass "com/example/faden/faden/rank/RecordReaderAtEndPinLaw" = some m.cls) (hnm : meth.name = "law") (e0 : T0.heap = h0) (N0 : Fr n0 locs) (Z0 : n0 ≤ h0.size) (p0 : Int32) (p1 : Int32) (p2 : Int32) (p3 : Int32) (hn : vn0c00_3 p3 = (0 : Int32)) :
    OwnFin X0 (some .boolean) (LQ n0) room_1.cells room_1.slots (mkF m 0 #[.val (.int p0), .val (.int p1), .val (.int p2), .val (.int p3), .unset, .unset, .unset, .unset, .unset, .unset] []) := by
  refine OwnFin.step (g' := (mkF m 1 (Lan0c00_0 p0 p1 p2 p3) [(.int p3)])) X0 (fun t k => XS.iloadN X0.here hx rfl (hb hby at_0) rfl k) ?_
  refine OwnFin.step (g' := (mkF m 2 (Lan0c00_0 p0 p1 p2 p3) [(.int (3 : Int32)), (.int p3)])) X0 (fun t k => XS.iconst X0.here hx rfl (hb hby at_1) k) ?_
  refine OwnFin.step (g' := (mkF m 3 (Lan0c00_0 p0 p1 p2 p3) [(.int (p3 &&& (3 : Int32)))])) X0 (fun t k => XS.iand X0.here hx rfl (hb hby at_2) rfl k) ?_
  refine OwnFin.step (g' := (mkF m 5 #[.val (.int p0), .val (.int p1), .val (.int p2), .val (.int p3), .val (.int (vn0c00_3 p3)), .unset, .unset, .unset, .unset, .unset] [])) X0 (fun t k => XS.istore X0.here hx rfl (hb hby at_3) rfl (l' := #[.val (.int p0), .val (.int p1), .val (.int p2), .val (.int p3), .val (.int (vn0c00_3 p3)), .unset, .unset, .unset, .unset, .unset]) rfl k) ?_
  rw [hn]
  refine OwnFin.step (g' := (mkF m 6 (Lan0c00_1 p0 p1 p2 p3) [(.int p3)])) X0 (fun t k => XS.iloadN X0.here hx rfl (hb hby at_5) rfl k) ?_
  refine OwnFin.step (g' := (mkF m 7 (Lan0c00_1 p0 p1 p2 p3) [(.int (4 : Int32)), (.int p3)])) X0 (fun t k => XS.iconst X0.here hx rfl (hb hby at_6) k) ?_
  refine OwnFin.step (g' := (mkF m 8 (Lan0c00_1 p0 p1 p2 p3) [(.int (p3 &&& (4 : Int32)))])) X0 (fun t k => XS.iand X0.here hx rfl (hb hby at_7) rfl k) ?_
  refine OwnFin.step (g' := (mkF m 22 #[.val (.int p0), .val (.int p1), .val (.int p2), .val (.int p3), .val (.int (0 : Int32)), .unset, .unset, .unset, .unset, .unset] [(.int (0 : Int32))])) X0 (fun t k => ?_) ?_
  · show Steps p.tables e below (T0.setTop (mkF m 8 (Lan0c00_1 p0 p1 p2 p3) [(.int (p3 &&& (4 : Int32)))])) t
    by_cases hc1 : (p3 &&& (4 : Int32)) = (0 : Int32)
    · skip
      refine XS.ifYes X0.here hx rfl (pc0 := 8) (pc' := 21) rfl (hb hby at_8) rfl ((if0 _ _).trans (teq hc1).1) (by decide) (by decide) ?_
      show Steps p.tables e below (T0.setTop (mkF m 21 (Lan0c00_1 p0 p1 p2 p3) [])) t
      refine XS.iconst X0.here hx rfl (hb hby at_21) ?_
      show Steps p.tables e below (T0.setTop (mkF m 22 (Lan0c00_1 p0 p1 p2 p3) [(.int (0 : Int32))])) t
      exact k
    · skip
      refine XS.ifNo X0.here hx rfl (hb hby at_8) rfl ((if0 _ _).trans (feq hc1).1) ?_
      show Steps p.tables e below (T0.setTop (mkF m 11 (Lan0c00_1 p0 p1 p2 p3) [])) t
      refine XS.iload X0.here hx rfl (hb hby at_11) rfl ?_
      show Steps p.tables e below (T0.setTop (mkF m 13 (Lan0c00_1 p0 p1 p2 p3) [(.int (0 : Int32))])) t
      refine XS.iconst X0.here hx rfl (hb hby at_13) ?_
      show Steps p.tables e below (T0.setTop (mkF m 14 (Lan0c00_1 p0 p1 p2 p3) [(.int (2 : Int32)), (.int (0 : Int32))])) t
      refine XS.icmpYes X0.here hx rfl (pc0 := 14) (pc' := 21) rfl (hb hby at_14) rfl (tlt (by decide)).1 (by decide) (by decide) ?_
      show Steps p.tables e below (T0.setTop (mkF m 21 (Lan0c00_1 p0 p1 p2 p3) [])) t
      refine XS.iconst X0.here hx rfl (hb hby at_21) ?_
      show Steps p.tables e below (T0.setTop (mkF m 22 (Lan0c00_1 p0 p1 p2 p3) [(.int (0 : Int32))])) t
      exact k
  refine OwnFin.step (g' := (mkF m 24 (Lan0c00_2 p0 p1 p2 p3) [])) X0 (fun t k => XS.istore X0.here hx rfl (hb hby at_22) rfl (l' := (Lan0c00_2 p0 p1 p2 p3)) rfl k) ?_
  refine OwnFin.step (g' := (mkF m 26 (Lan0c00_2 p0 p1 p2 p3) [(.int (0 : Int32))])) X0 (fun t k => XS.iload X0.here hx rfl (hb hby at_24) rfl k) ?_
  obtain ⟨T2, h2, b2, X2, e2, y2, K2, A2, st2⟩ := own_new X0 hx hZ (hw _ (wm 0 rfl)) e0 (g := (mkF m 26 (Lan0c00_2 p0 p1 p2 p3) [(.int (0 : Int32))])) rfl (hb hby at_26) rfl (by decide) (cap := 0) (by decide) (by decide) (by decide) (by decide)
  have B2 : Ary Z h2 b2 .byte 0 (fun i => .int ((fun _ => (0 : Int32)) i)) := A2
  have g_b2 : n0 ≤ b2 := by rw [y2]; exact Z0
  have Z2 := Nat.le_trans Z0 K2.1
  refine OwnFin.step (g' := (mkF m 28 (Lan0c00_2 p0 p1 p2 p3) [(.ref b2)])) X2 (fun t k => st2 _ k) ?_
  refine OwnFin.step (g' := (mkF m 30 (Lan0c00_3 p0 p1 p2 p3 b2) [])) X2 (fun t k => XS.astore X2.here hx rfl (hb hby at_28) rfl rfl (l' := (Lan0c00_3 p0 p1 p2 p3 b2)) rfl k) ?_
  refine OwnFin.step (g' := (mkF m 32 (Lan0c00_3 p0 p1 p2 p3 b2) [(.int (0 : Int32))])) X2 (fun t k => XS.iload X2.here hx rfl (hb hby at_30) rfl k) ?_
  refine OwnFin.step (g' := (mkF m 60 (Lan0c00_3 p0 p1 p2 p3 b2) [])) X2 (fun t k => XS.ifYes X2.here hx rfl (pc0 := 32) (pc' := 60) rfl (hb hby at_32) rfl ((if0 _ _).trans (flt (by decide)).2.2.2) (by decide) (by decide) k) ?_
  refine OwnFin.step (g' := (mkF m 62 (Lan0c00_3 p0 p1 p2 p3 b2) [(.int (0 : Int32))])) X2 (fun t k => XS.iload X2.here hx rfl (hb hby at_60) rfl k) ?_
  refine OwnFin.step (g' := (mkF m 63 (Lan0c00_3 p0 p1 p2 p3 b2) [(.int (1 : Int32)), (.int (0 : Int32))])) X2 (fun t k => XS.iconst X2.here hx rfl (hb hby at_62) k) ?_
  refine OwnFin.step (g' := (mkF m 75 (Lan0c00_3 p0 p1 p2 p3 b2) [])) X2 (fun t k => XS.icmpYes X2.here hx rfl (pc0 := 63) (pc' := 75) rfl (hb hby at_63) rfl (flt (by decide)).2.2.2 (by decide) (by decide) k) ?_
  refine OwnFin.step (g' := (mkF m 77 (Lan0c00_3 p0 p1 p2 p3 b2) [(.int (0 : Int32))])) X2 (fun t k => XS.iload X2.here hx rfl (hb hby at_75) rfl k) ?_
  refine OwnFin.step (g' := (mkF m 78 (Lan0c00_3 p0 p1 p2 p3 b2) [(.int (2 : Int32)), (.int (0 : Int32))])) X2 (fun t k => XS.iconst X2.here hx rfl (hb hby at_77) k) ?_
  refine OwnFin.step (g' := (mkF m 90 (Lan0c00_3 p0 p1 p2 p3 b2) [])) X2 (fun t k => XS.icmpYes X2.here hx rfl (pc0 := 78) (pc' := 90) rfl (hb hby at_78) rfl (flt (by decide)).2.2.2 (by decide) (by decide) k) ?_
  obtain ⟨T3, h3, X3, e3, E3, A3, D3, -, st3⟩ := newO X2 hx hZ hown (hw _ (wm 1 rfl)) (hw _ (wm 2 rfl)) (hw _ (wm 3 rfl)) e2 (g := (mkF m 90 (Lan0c00_3 p0 p1 p2 p3 b2) [])) rfl (hb hby at_90) (by decide) (by decide)
  obtain ⟨b3, y3⟩ : ∃ z, z = h2.size := ⟨_, rfl⟩
  rw [← y3] at A3 D3 st3
  have K3 := keep_ext E3
  have ne_b2_b3 : b2 ≠ b3 := Ary.neS B2 y3
  have g_b3 : n0 ≤ b3 := by rw [y3]; exact Z2
  have Z3 := Nat.le_trans Z2 K3.1
  have F3_record : Fld Z h3 b3 "com/example/faden/faden/rank/RecordReader" "record" "[B" .null := D3 (Or.inr (hw _ (wm 11 rfl))) (ty := (.array .byte)) (by decide)
  have F3_at : Fld Z h3 b3 "com/example/faden/faden/rank/RecordReader" "at" "I" (.int (0 : Int32)) := D3 (Or.inl (hw _ (wm 18 rfl))) (ty := .int) (by decide)
  refine OwnFin.step (g' := (mkF m 93 (Lan0c00_3 p0 p1 p2 p3 b2) [(.ref b3)])) X3 (fun t k => st3 _ k) ?_
  refine OwnFin.step (g' := (mkF m 94 (Lan0c00_3 p0 p1 p2 p3 b2) [(.ref b3), (.ref b3)])) X3 (fun t k => XS.dup X3.here hx rfl (hb hby at_93) rfl rfl k) ?_
  refine OwnFin.step (g' := (mkF m 96 (Lan0c00_3 p0 p1 p2 p3 b2) [(.ref b2), (.ref b3), (.ref b3)])) X3 (fun t k => XS.aload X3.here hx rfl (hb hby at_94) rfl rfl k) ?_
  obtain ⟨_, T4, L4, X4, ⟨rfl, N4q, u5, u6, u7, u8⟩, st4⟩ := own_callI X3 hx hZ (y := (⟨"com/example/faden/faden/rank/RecordReader", "<init>", "([B)V"⟩ : MethodName)) (W := 1) (a := b3) (argsL := [(.ref b2)]) (rest := [(.ref b3)]) rfl hown (hw _ (wm 4 rfl)) (hw _ (wm 5 rfl)) (hw _ (wm 3 rfl)) (hw _ (wm 6 rfl)) (by decide) (rm1 l Z a0 hw [] b3 b2 h3 n0 Z3 A3 g_b3 F3_record F3_at) (by decide) (by decide) (by decide) (by decide) e3 (g := (mkF m 96 (Lan0c00_3 p0 p1 p2 p3 b2) [(.ref b2), (.ref b3), (.ref b3)])) rfl (by rw [hml]; rfl) pd_0 rfl rfl (by show 2 * 0 + _ ≤ _; exact Nat.le_of_eq rfl) (hb hby at_96)
  have N4 := Fr.app N0 N4q
  obtain ⟨h4, e4⟩ : ∃ z, T4.heap = z := ⟨_, rfl⟩
  rw [e4] at u5 u6 u7 u8
  have K4 := u5
  have Z4 := Nat.le_trans Z3 K4.1
  refine OwnFin.step (g' := (mkF m 99 (Lan0c00_3 p0 p1 p2 p3 b2) [(.ref b3)])) X4 (fun t k => st4 _ k) ?_
  refine OwnFin.step (g' := (mkF m 101 (Lan0c00_4 p0 p1 p2 p3 b2 b3) [])) X4 (fun t k => XS.astore X4.here hx rfl (hb hby at_99) rfl rfl (l' := (Lan0c00_4 p0 p1 p2 p3 b2 b3)) rfl k) ?_
  refine OwnFin.step (g' := (mkF m 103 (Lan0c00_4 p0 p1 p2 p3 b2 b3) [(.ref b3)])) X4 (fun t k => XS.aload X4.here hx rfl (hb hby at_101) rfl rfl k) ?_
  have A10 := ((B2.keep K3 nin0).keep K4 (ninS ne_b2_b3 nin0))
  obtain ⟨_, T9, L9, X9, ⟨rfl, N9q, u11⟩, st9⟩ := own_callV X4 hx hZ (y := (⟨"com/example/faden/faden/rank/RecordReader", "atEnd", "()Z"⟩ : MethodName)) (W := 0) (a := b3) (argsL := []) (rest := []) hown (hw _ (wm 12 rfl)) (hw _ (wm 13 rfl)) (hw _ (wm 15 rfl)) (hw _ (wm 14 rfl)) (hw _ (wm 3 rfl)) (hw _ (wm 16 rfl)) (by decide) u6 (rm3 l Z a0 hw [] b3 0 (fun _ => (0 : Int32)) b2 (0 : Int32) h4 n0 Z4 u6 g_b3 u7 u8 A10 (Ne.symm ne_b2_b3)) (by decide) (by decide) (by decide) (by decide) e4 (g := (mkF m 103 (Lan0c00_4 p0 p1 p2 p3 b2 b3) [(.ref b3)])) rfl (by rw [hml]; rfl) pd_1 rfl rfl (by show 2 * 0 + _ ≤ _; exact Nat.le_of_eq rfl) (hb hby at_103)
  have N9 := Fr.app N4 N9q
  obtain ⟨h9, e9⟩ : ∃ z, T9.heap = z := ⟨_, rfl⟩
  rw [e9] at u11
  have K9 := u11
  have Z9 := Nat.le_trans Z4 K9.1
  rw [show (nar .boolean (v3_17 (0 : Int32) 0)) = (1 : Int32) from by decide] at st9
  refine OwnFin.step (g' := (mkF m 106 (Lan0c00_4 p0 p1 p2 p3 b2 b3) [(.int (1 : Int32))])) X9 (fun t k => st9 _ k) ?_
  refine OwnFin.step (g' := (mkF m 108 (Lan0c00_4 p0 p1 p2 p3 b2 b3) [(.int (0 : Int32)), (.int (1 : Int32))])) X9 (fun t k => XS.iload X9.here hx rfl (hb hby at_106) rfl k) ?_
  refine OwnFin.step (g' := (mkF m 111 (Lan0c00_4 p0 p1 p2 p3 b2 b3) [(.int (1 : Int32))])) X9 (fun t k => XS.ifNo X9.here hx rfl (hb hby at_108) rfl ((if0 _ _).trans (teq (by decide)).2) k) ?_
  refine OwnFin.step (g' := (mkF m 112 (Lan0c00_4 p0 p1 p2 p3 b2 b3) [(.int (1 : Int32)), (.int (1 : Int32))])) X9 (fun t k => XS.iconst X9.here hx rfl (hb hby at_111) k) ?_
  refine OwnFin.step (g' := (mkF m 116 (Lan0c00_4 p0 p1 p2 p3 b2 b3) [(.int (1 : Int32)), (.int (1 : Int32))])) X9 (fun t k => XS.goto X9.here hx rfl (pc0 := 112) (pc' := 116) rfl (hb hby at_112) (by decide) (by decide) k) ?_
  refine OwnFin.step (g' := (mkF m 119 (Lan0c00_4 p0 p1 p2 p3 b2 b3) [])) X9 (fun t k => XS.icmpNo X9.here hx rfl (hb hby at_116) rfl (teq (by decide)).2 k) ?_
  refine OwnFin.step (g' := (mkF m 120 (Lan0c00_4 p0 p1 p2 p3 b2 b3) [(.int (1 : Int32))])) X9 (fun t k => XS.iconst X9.here hx rfl (hb hby at_119) k) ?_
  refine OwnFin.step (g' := (mkF m 124 (Lan0c00_4 p0 p1 p2 p3 b2 b3) [(.int (1 : Int32))])) X9 (fun t k => XS.goto X9.here hx rfl (pc0 := 120) (pc' := 124) rfl (hb hby at_120) (by decide) (by decide) k) ?_
  refine OwnFin.step (g' := (mkF m 126 (Lan0c00_5 p0 p1 p2 p3 b2 b3) [])) X9 (fun t k => XS.istore X9.here hx rfl (hb hby at_124) rfl (l' := (Lan0c00_5 p0 p1 p2 p3 b2 b3)) rfl k) ?_
  refine OwnFin.step (g' := (mkF m 127 (Lan0c00_5 p0 p1 p2 p3 b2 b3) [(.int (0 : Int32))])) X9 (fun t k => XS.iconst X9.here hx rfl (hb hby at_126) k) ?_
  refine OwnFin.step (g' := (mkF m 129 (Lan0c00_6 p0 p1 p2 p3 b2 b3) [])) X9 (fun t k => XS.istore X9.here hx rfl (hb hby at_127) rfl (l' := (Lan0c00_6 p0 p1 p2 p3 b2 b3)) rfl k) ?_
  refine OwnFin.step (g' := (mkF m 131 (Lan0c00_6 p0 p1 p2 p3 b2 b3) [(.int (0 : Int32))])) X9 (fun t k => XS.iload X9.here hx rfl (hb hby at_129) rfl k) ?_
  refine OwnFin.step (g' := (mkF m 132 (Lan0c00_6 p0 p1 p2 p3 b2 b3) [(.int (1 : Int32)), (.int (0 : Int32))])) X9 (fun t k => XS.iconst X9.here hx rfl (hb hby at_131) k) ?_
  refine OwnFin.step (g' := (mkF m 188 (Lan0c00_6 p0 p1 p2 p3 b2 b3) [])) X9 (fun t k => XS.icmpYes X9.here hx rfl (pc0 := 132) (pc' := 188) rfl (hb hby at_132) rfl (tlt (by decide)).1 (by decide) (by decide) k) ?_
  refine OwnFin.step (g' := (mkF m 190 (Lan0c00_6 p0 p1 p2 p3 b2 b3) [(.int (0 : Int32))])) X9 (fun t k => XS.iload X9.here hx rfl (hb hby at_188) rfl k) ?_
  refine OwnFin.step (g' := (mkF m 192 (Lan0c00_6 p0 p1 p2 p3 b2 b3) [(.int (0 : Int32)), (.int (0 : Int32))])) X9 (fun t k => XS.iload X9.here hx rfl (hb hby at_190) rfl k) ?_
  refine OwnFin.step (g' := (mkF m 239 (Lan0c00_6 p0 p1 p2 p3 b2 b3) [])) X9 (fun t k => XS.icmpYes X9.here hx rfl (pc0 := 192) (pc' := 239) rfl (hb hby at_192) rfl (flt (by decide)).2.1 (by decide) (by decide) k) ?_
  refine OwnFin.step (g' := (mkF m 241 (Lan0c00_6 p0 p1 p2 p3 b2 b3) [(.int (0 : Int32))])) X9 (fun t k => XS.iload X9.here hx rfl (hb hby at_239) rfl k) ?_
  refine OwnFin.step (g' := (mkF m 243 (Lan0c00_6 p0 p1 p2 p3 b2 b3) [(.int (0 : Int32)), (.int (0 : Int32))])) X9 (fun t k => XS.iload X9.here hx rfl (hb hby at_241) rfl k) ?_
  refine OwnFin.step (g' := (mkF m 290 (Lan0c00_6 p0 p1 p2 p3 b2 b3) [])) X9 (fun t k => XS.icmpYes X9.here hx rfl (pc0 := 243) (pc' := 290) rfl (hb hby at_243) rfl (flt (by decide)).2.1 (by decide) (by decide) k) ?_
  refine OwnFin.step (g' := (mkF m 292 (Lan0c00_6 p0 p1 p2 p3 b2 b3) [(.int (1 : Int32))])) X9 (fun t k => XS.iload X9.here hx rfl (hb hby at_290) rfl k) ?_
  refine OwnFin.step (g' := (mkF m 295 (Lan0c00_6 p0 p1 p2 p3 b2 b3) [])) X9 (fun t k => XS.ifNo X9.here hx rfl (hb hby at_292) rfl ((if0 _ _).trans (feq (by decide)).1) k) ?_
  refine OwnFin.step (g' := (mkF m 297 (Lan0c00_6 p0 p1 p2 p3 b2 b3) [(.ref b3)])) X9 (fun t k => XS.aload X9.here hx rfl (hb hby at_295) rfl rfl k) ?_
  have E13 := (Exa.keep u6 K9)
  have F14 := (u7.keep K9 nin0)
  have F15 := (u8.keep K9 nin0)
  have A16 := (A10.keep K9 nin0)
  obtain ⟨_, T12, L12, X12, ⟨rfl, N12q, u17⟩, st12⟩ := own_callV X9 hx hZ (y := (⟨"com/example/faden/faden/rank/RecordReader", "atEnd", "()Z"⟩ : MethodName)) (W := 0) (a := b3) (argsL := []) (rest := []) hown (hw _ (wm 12 rfl)) (hw _ (wm 13 rfl)) (hw _ (wm 15 rfl)) (hw _ (wm 14 rfl)) (hw _ (wm 3 rfl)) (hw _ (wm 16 rfl)) (by decide) E13 (rm3 l Z a0 hw [] b3 0 (fun _ => (0 : Int32)) b2 (0 : Int32) h9 n0 Z9 E13 g_b3 F14 F15 A16 (Ne.symm ne_b2_b3)) (by decide) (by decide) (by decide) (by decide) e9 (g := (mkF m 297 (Lan0c00_6 p0 p1 p2 p3 b2 b3) [(.ref b3)])) rfl (by rw [hml]; rfl) pd_1 rfl rfl (by show 2 * 0 + _ ≤ _; exact Nat.le_of_eq rfl) (hb hby at_297)
  have N12 := Fr.app N9 N12q
  obtain ⟨h12, e12⟩ : ∃ z, T12.heap = z := ⟨_, rfl⟩
  rw [e12] at u17
  have K12 := u17
  have Z12 := Nat.le_trans Z9 K12.1
  rw [show (nar .boolean (v3_17 (0 : Int32) 0)) = (1 : Int32) from by decide] at st12
  refine OwnFin.step (g' := (mkF m 300 (Lan0c00_6 p0 p1 p2 p3 b2 b3) [(.int (1 : Int32))])) X12 (fun t k => st12 _ k) ?_
  refine OwnFin.step (g' := (mkF m 303 (Lan0c00_6 p0 p1 p2 p3 b2 b3) [])) X12 (fun t k => XS.ifNo X12.here hx rfl (hb hby at_300) rfl ((if0 _ _).trans (feq (by decide)).1) k) ?_
  refine OwnFin.step (g' := (mkF m 304 (Lan0c00_6 p0 p1 p2 p3 b2 b3) [(.int (1 : Int32))])) X12 (fun t k => XS.iconst X12.here hx rfl (hb hby at_303) k) ?_
  refine OwnFin.step (g' := (mkF m 308 (Lan0c00_6 p0 p1 p2 p3 b2 b3) [(.int (1 : Int32))])) X12 (fun t k => XS.goto X12.here hx rfl (pc0 := 304) (pc' := 308) rfl (hb hby at_304) (by decide) (by decide) k) ?_
  refine OwnFin.step (g' := (mkF m 310 (Lan0c00_6 p0 p1 p2 p3 b2 b3) [])) X12 (fun t k => XS.istore X12.here hx rfl (hb hby at_308) rfl (l' := (Lan0c00_6 p0 p1 p2 p3 b2 b3)) rfl k) ?_
  refine OwnFin.step (g' := (mkF m 312 (Lan0c00_6 p0 p1 p2 p3 b2 b3) [(.int (1 : Int32))])) X12 (fun t k => XS.iload X12.here hx rfl (hb hby at_310) rfl k) ?_
  refine OwnFin.retNar X12 (by simp) (hb hby at_312) (by decide) (by decide) ?_
  exact ⟨rfl, N12⟩
set_option maxRecDepth 65536 in
set_option maxHeartbeats 40000000 in
theorem rm0n0c0 (l : Launch) (Z : State) (a0 : Array Value) (hw : ∀ d ∈ tables_1, d.before a0 Z = true) (ws : List Jvm.Cond) (p0 : Int32) (p1 : Int32) (p2 : Int32) (p3 : Int32) (h0 : Heap) (n0 : Nat) (Z0 : n0 ≤ h0.size) (hn : vn0c00_3 p3 = (0 : Int32)) :
    MetFree l x (head1 (Jvm.Cond.code x code maxLocals ret :: ws) room_1) (fun a U => a = #[(.int p0), (.int p1), (.int p2), (.int p3)] ∧ Z.Warmed39 U.vm ∧ U.heap = h0) (fun _ _ _ _ _ => True) (fun _ U o U' => ∃ v L, o = .returned v ∧ (LQ n0) v U'.heap L ∧ FrameEnd U o U' L room_1.cells room_1.slots) :=
  own_met (ret := ret) (Q := (LQ n0)) (plainFor_of_name pn_0) (fun m => ef_0 m p0 p1 p2 p3) (fun p e s m below meth c s₁ X hx hby hml hown hnm hZ e0 => j0n0c0 X hx hZ hw hby hml hown hnm e0 (Fr.nil n0) Z0 p0 p1 p2 p3 hn)
theorem pd_2 : parseMethodDescriptor "()I" = some ⟨[], some .int⟩ := by decide +kernel
def vn1c00_3 (p3 : Int32) : Int32 := (p3 &&& (3 : Int32))
def Gn1c00_59 (p0 : Int32) : Nat → Int32 := (updN (fun _ => (0 : Int32)) ((0 : Int32)).toNatClampNeg (nar .byte ((p0 &&& (127 : Int32)).toInt8.toInt32)))
theorem exhlnn1c00_137 (p3 : Int32) (hn : vn1c00_3 p3 = (1 : Int32)) : 1 ≤ 1 ∧ 1 < 100 := by decide
theorem exhb0n1c00_137 (p0 : Int32) (p3 : Int32) (hn : vn1c00_3 p3 = (1 : Int32)) : (((Gn1c00_59 p0) 0) &&& 255).toInt < 128 := by
  have b := own_b127 p0
  have h : (((Gn1c00_59 p0) 0) &&& 255).toInt = (p0 &&& 127).toInt := own_lo b
  omega
abbrev Lan1c00_0 (p0 : Int32) (p1 : Int32) (p2 : Int32) (p3 : Int32) : Array Slot := #[.val (.int p0), .val (.int p1), .val (.int p2), .val (.int p3), .unset, .unset, .unset, .unset, .unset, .unset]
abbrev Lan1c00_1 (p0 : Int32) (p1 : Int32) (p2 : Int32) (p3 : Int32) : Array Slot := #[.val (.int p0), .val (.int p1), .val (.int p2), .val (.int p3), .val (.int (1 : Int32)), .unset, .unset, .unset, .unset, .unset]
abbrev Lan1c00_2 (p0 : Int32) (p1 : Int32) (p2 : Int32) (p3 : Int32) : Array Slot := #[.val (.int p0), .val (.int p1), .val (.int p2), .val (.int p3), .val (.int (1 : Int32)), .val (.int (0 : Int32)), .unset, .unset, .unset, .unset]
abbrev Lan1c00_3 (p0 : Int32) (p1 : Int32) (p2 : Int32) (p3 : Int32) (b2 : Addr) : Array Slot := #[.val (.int p0), .val (.int p1), .val (.int p2), .val (.int p3), .val (.int (1 : Int32)), .val (.int (0 : Int32)), .val (.ref b2), .unset, .unset, .unset]
abbrev Lan1c00_4 (p0 : Int32) (p1 : Int32) (p2 : Int32) (p3 : Int32) (b2 : Addr) (b4 : Addr) : Array Slot := #[.val (.int p0), .val (.int p1), .val (.int p2), .val (.int p3), .val (.int (1 : Int32)), .val (.int (0 : Int32)), .val (.ref b2), .val (.ref b4), .unset, .unset]
abbrev Lan1c00_5 (p0 : Int32) (p1 : Int32) (p2 : Int32) (p3 : Int32) (b2 : Addr) (b4 : Addr) : Array Slot := #[.val (.int p0), .val (.int p1), .val (.int p2), .val (.int p3), .val (.int (1 : Int32)), .val (.int (0 : Int32)), .val (.ref b2), .val (.ref b4), .val (.int (1 : Int32)), .unset]
abbrev Lan1c00_6 (p0 : Int32) (p1 : Int32) (p2 : Int32) (p3 : Int32) (b2 : Addr) (b4 : Addr) : Array Slot := #[.val (.int p0), .val (.int p1), .val (.int p2), .val (.int p3), .val (.int (1 : Int32)), .val (.int (0 : Int32)), .val (.ref b2), .val (.ref b4), .val (.int (1 : Int32)), .val (.int (0 : Int32))]
abbrev Lan1c00_7 (p0 : Int32) (p1 : Int32) (p2 : Int32) (p3 : Int32) (b2 : Addr) (b4 : Addr) : Array Slot := #[.val (.int p0), .val (.int p1), .val (.int p2), .val (.int p3), .val (.int (1 : Int32)), .val (.int (0 : Int32)), .val (.ref b2), .val (.ref b4), .val (.int (1 : Int32)), .val (.int (1 : Int32))]
set_option maxRecDepth 65536 in
set_option maxHeartbeats 40000000 in
theorem j0n1c0 {p : Program} {l : Launch} {e : Env} {s : State} {m : MethodId} {args : Array Value} {below : List Frame} {meth : Method} {c : Code} {T0 : State} {locs : List Loc} {Z : State} {a0 : Array Value} {h0 : Heap} {n0 : Nat}
    (X0 : Stand p l e room_1 s m args below meth c T0 locs 0 0) (hx : p.tables.exec = Jvm.exec) (hZ : Z.Warmed39 s.vm) (hw : ∀ d ∈ tables_1, d.before a0 Z = true) (hby : c.code = code) (hml : c.maxLocals = 10) (hown : s.vm.findClass "com/example/faden/faden/rank/RecordReaderAtEndPinLaw" = some m.cls) (hnm : meth.name = "law") (e0 : T0.heap = h0) (N0 : Fr n0 locs) (Z0 : n0 ≤ h0.size) (p0 : Int32) (p1 : Int32) (p2 : Int32) (p3 : Int32) (hn : vn1c00_3 p3 = (1 : Int32)) :
    OwnFin X0 (some .boolean) (LQ n0) room_1.cells room_1.slots (mkF m 0 #[.val (.int p0), .val (.int p1), .val (.int p2), .val (.int p3), .unset, .unset, .unset, .unset, .unset, .unset] []) := by
  refine OwnFin.step (g' := (mkF m 1 (Lan1c00_0 p0 p1 p2 p3) [(.int p3)])) X0 (fun t k => XS.iloadN X0.here hx rfl (hb hby at_0) rfl k) ?_
  refine OwnFin.step (g' := (mkF m 2 (Lan1c00_0 p0 p1 p2 p3) [(.int (3 : Int32)), (.int p3)])) X0 (fun t k => XS.iconst X0.here hx rfl (hb hby at_1) k) ?_
  refine OwnFin.step (g' := (mkF m 3 (Lan1c00_0 p0 p1 p2 p3) [(.int (p3 &&& (3 : Int32)))])) X0 (fun t k => XS.iand X0.here hx rfl (hb hby at_2) rfl k) ?_
  refine OwnFin.step (g' := (mkF m 5 #[.val (.int p0), .val (.int p1), .val (.int p2), .val (.int p3), .val (.int (vn1c00_3 p3)), .unset, .unset, .unset, .unset, .unset] [])) X0 (fun t k => XS.istore X0.here hx rfl (hb hby at_3) rfl (l' := #[.val (.int p0), .val (.int p1), .val (.int p2), .val (.int p3), .val (.int (vn1c00_3 p3)), .unset, .unset, .unset, .unset, .unset]) rfl k) ?_
  rw [hn]
  refine OwnFin.step (g' := (mkF m 6 (Lan1c00_1 p0 p1 p2 p3) [(.int p3)])) X0 (fun t k => XS.iloadN X0.here hx rfl (hb hby at_5) rfl k) ?_
  refine OwnFin.step (g' := (mkF m 7 (Lan1c00_1 p0 p1 p2 p3) [(.int (4 : Int32)), (.int p3)])) X0 (fun t k => XS.iconst X0.here hx rfl (hb hby at_6) k) ?_
  refine OwnFin.step (g' := (mkF m 8 (Lan1c00_1 p0 p1 p2 p3) [(.int (p3 &&& (4 : Int32)))])) X0 (fun t k => XS.iand X0.here hx rfl (hb hby at_7) rfl k) ?_
  refine OwnFin.step (g' := (mkF m 22 #[.val (.int p0), .val (.int p1), .val (.int p2), .val (.int p3), .val (.int (1 : Int32)), .unset, .unset, .unset, .unset, .unset] [(.int (0 : Int32))])) X0 (fun t k => ?_) ?_
  · show Steps p.tables e below (T0.setTop (mkF m 8 (Lan1c00_1 p0 p1 p2 p3) [(.int (p3 &&& (4 : Int32)))])) t
    by_cases hc1 : (p3 &&& (4 : Int32)) = (0 : Int32)
    · skip
      refine XS.ifYes X0.here hx rfl (pc0 := 8) (pc' := 21) rfl (hb hby at_8) rfl ((if0 _ _).trans (teq hc1).1) (by decide) (by decide) ?_
      show Steps p.tables e below (T0.setTop (mkF m 21 (Lan1c00_1 p0 p1 p2 p3) [])) t
      refine XS.iconst X0.here hx rfl (hb hby at_21) ?_
      show Steps p.tables e below (T0.setTop (mkF m 22 (Lan1c00_1 p0 p1 p2 p3) [(.int (0 : Int32))])) t
      exact k
    · skip
      refine XS.ifNo X0.here hx rfl (hb hby at_8) rfl ((if0 _ _).trans (feq hc1).1) ?_
      show Steps p.tables e below (T0.setTop (mkF m 11 (Lan1c00_1 p0 p1 p2 p3) [])) t
      refine XS.iload X0.here hx rfl (hb hby at_11) rfl ?_
      show Steps p.tables e below (T0.setTop (mkF m 13 (Lan1c00_1 p0 p1 p2 p3) [(.int (1 : Int32))])) t
      refine XS.iconst X0.here hx rfl (hb hby at_13) ?_
      show Steps p.tables e below (T0.setTop (mkF m 14 (Lan1c00_1 p0 p1 p2 p3) [(.int (2 : Int32)), (.int (1 : Int32))])) t
      refine XS.icmpYes X0.here hx rfl (pc0 := 14) (pc' := 21) rfl (hb hby at_14) rfl (tlt (by decide)).1 (by decide) (by decide) ?_
      show Steps p.tables e below (T0.setTop (mkF m 21 (Lan1c00_1 p0 p1 p2 p3) [])) t
      refine XS.iconst X0.here hx rfl (hb hby at_21) ?_
      show Steps p.tables e below (T0.setTop (mkF m 22 (Lan1c00_1 p0 p1 p2 p3) [(.int (0 : Int32))])) t
      exact k
  refine OwnFin.step (g' := (mkF m 24 (Lan1c00_2 p0 p1 p2 p3) [])) X0 (fun t k => XS.istore X0.here hx rfl (hb hby at_22) rfl (l' := (Lan1c00_2 p0 p1 p2 p3)) rfl k) ?_
  refine OwnFin.step (g' := (mkF m 26 (Lan1c00_2 p0 p1 p2 p3) [(.int (1 : Int32))])) X0 (fun t k => XS.iload X0.here hx rfl (hb hby at_24) rfl k) ?_
  obtain ⟨T2, h2, b2, X2, e2, y2, K2, A2, st2⟩ := own_new X0 hx hZ (hw _ (wm 0 rfl)) e0 (g := (mkF m 26 (Lan1c00_2 p0 p1 p2 p3) [(.int (1 : Int32))])) rfl (hb hby at_26) rfl (by decide) (cap := 1) (by decide) (by decide) (by decide) (by decide)
  have B2 : Ary Z h2 b2 .byte 1 (fun i => .int ((fun _ => (0 : Int32)) i)) := A2
  have g_b2 : n0 ≤ b2 := by rw [y2]; exact Z0
  have Z2 := Nat.le_trans Z0 K2.1
  refine OwnFin.step (g' := (mkF m 28 (Lan1c00_2 p0 p1 p2 p3) [(.ref b2)])) X2 (fun t k => st2 _ k) ?_
  refine OwnFin.step (g' := (mkF m 30 (Lan1c00_3 p0 p1 p2 p3 b2) [])) X2 (fun t k => XS.astore X2.here hx rfl (hb hby at_28) rfl rfl (l' := (Lan1c00_3 p0 p1 p2 p3 b2)) rfl k) ?_
  refine OwnFin.step (g' := (mkF m 32 (Lan1c00_3 p0 p1 p2 p3 b2) [(.int (1 : Int32))])) X2 (fun t k => XS.iload X2.here hx rfl (hb hby at_30) rfl k) ?_
  refine OwnFin.step (g' := (mkF m 35 (Lan1c00_3 p0 p1 p2 p3 b2) [])) X2 (fun t k => XS.ifNo X2.here hx rfl (hb hby at_32) rfl ((if0 _ _).trans (tlt (by decide)).2.2.2) k) ?_
  refine OwnFin.step (g' := (mkF m 37 (Lan1c00_3 p0 p1 p2 p3 b2) [(.ref b2)])) X2 (fun t k => XS.aload X2.here hx rfl (hb hby at_35) rfl rfl k) ?_
  refine OwnFin.step (g' := (mkF m 38 (Lan1c00_3 p0 p1 p2 p3 b2) [(.int (0 : Int32)), (.ref b2)])) X2 (fun t k => XS.iconst X2.here hx rfl (hb hby at_37) k) ?_
  refine OwnFin.step (g' := (mkF m 40 (Lan1c00_3 p0 p1 p2 p3 b2) [(.int (0 : Int32)), (.int (0 : Int32)), (.ref b2)])) X2 (fun t k => XS.iload X2.here hx rfl (hb hby at_38) rfl k) ?_
  refine OwnFin.step (g' := (mkF m 54 (Lan1c00_3 p0 p1 p2 p3 b2) [(.int (0 : Int32)), (.ref b2)])) X2 (fun t k => XS.ifYes X2.here hx rfl (pc0 := 40) (pc' := 54) rfl (hb hby at_40) rfl ((if0 _ _).trans (teq (by decide)).1) (by decide) (by decide) k) ?_
  refine OwnFin.step (g' := (mkF m 55 (Lan1c00_3 p0 p1 p2 p3 b2) [(.int p0), (.int (0 : Int32)), (.ref b2)])) X2 (fun t k => XS.iloadN X2.here hx rfl (hb hby at_54) rfl k) ?_
  refine OwnFin.step (g' := (mkF m 57 (Lan1c00_3 p0 p1 p2 p3 b2) [(.int (127 : Int32)), (.int p0), (.int (0 : Int32)), (.ref b2)])) X2 (fun t k => XS.bipush X2.here hx rfl (hb hby at_55) k) ?_
  refine OwnFin.step (g' := (mkF m 58 (Lan1c00_3 p0 p1 p2 p3 b2) [(.int (p0 &&& (127 : Int32))), (.int (0 : Int32)), (.ref b2)])) X2 (fun t k => XS.iand X2.here hx rfl (hb hby at_57) rfl k) ?_
  refine OwnFin.step (g' := (mkF m 59 (Lan1c00_3 p0 p1 p2 p3 b2) [(.int ((p0 &&& (127 : Int32)).toInt8.toInt32)), (.int (0 : Int32)), (.ref b2)])) X2 (fun t k => XT.i2b X2.here hx rfl (hb hby at_58) rfl k) ?_
  obtain ⟨T3, h3, L3, X3, e3, N3, K3, A3, st3⟩ := own_stB X2 hx hZ e2 N0 (G := (fun _ => (0 : Int32))) B2 g_b2 (j := (0 : Int32)) (x := ((p0 &&& (127 : Int32)).toInt8.toInt32)) (by decide) (g := (mkF m 59 (Lan1c00_3 p0 p1 p2 p3 b2) [(.int ((p0 &&& (127 : Int32)).toInt8.toInt32)), (.int (0 : Int32)), (.ref b2)])) rfl rfl (hb hby at_59)
  have B3 : Ary Z h3 b2 .byte 1 (fun i => .int ((Gn1c00_59 p0) i)) := A3
  have Z3 := Nat.le_trans Z2 K3.1
  refine OwnFin.step (g' := (mkF m 60 (Lan1c00_3 p0 p1 p2 p3 b2) [])) X3 (fun t k => st3 _ k) ?_
  refine OwnFin.step (g' := (mkF m 62 (Lan1c00_3 p0 p1 p2 p3 b2) [(.int (1 : Int32))])) X3 (fun t k => XS.iload X3.here hx rfl (hb hby at_60) rfl k) ?_
  refine OwnFin.step (g' := (mkF m 63 (Lan1c00_3 p0 p1 p2 p3 b2) [(.int (1 : Int32)), (.int (1 : Int32))])) X3 (fun t k => XS.iconst X3.here hx rfl (hb hby at_62) k) ?_
  refine OwnFin.step (g' := (mkF m 75 (Lan1c00_3 p0 p1 p2 p3 b2) [])) X3 (fun t k => XS.icmpYes X3.here hx rfl (pc0 := 63) (pc' := 75) rfl (hb hby at_63) rfl (flt (by decide)).2.2.2 (by decide) (by decide) k) ?_
  refine OwnFin.step (g' := (mkF m 77 (Lan1c00_3 p0 p1 p2 p3 b2) [(.int (1 : Int32))])) X3 (fun t k => XS.iload X3.here hx rfl (hb hby at_75) rfl k) ?_
  refine OwnFin.step (g' := (mkF m 78 (Lan1c00_3 p0 p1 p2 p3 b2) [(.int (2 : Int32)), (.int (1 : Int32))])) X3 (fun t k => XS.iconst X3.here hx rfl (hb hby at_77) k) ?_
  refine OwnFin.step (g' := (mkF m 90 (Lan1c00_3 p0 p1 p2 p3 b2) [])) X3 (fun t k => XS.icmpYes X3.here hx rfl (pc0 := 78) (pc' := 90) rfl (hb hby at_78) rfl (flt (by decide)).2.2.2 (by decide) (by decide) k) ?_
  obtain ⟨T4, h4, X4, e4, E4, A4, D4, -, st4⟩ := newO X3 hx hZ hown (hw _ (wm 1 rfl)) (hw _ (wm 2 rfl)) (hw _ (wm 3 rfl)) e3 (g := (mkF m 90 (Lan1c00_3 p0 p1 p2 p3 b2) [])) rfl (hb hby at_90) (by decide) (by decide)
  obtain ⟨b4, y4⟩ : ∃ z, z = h3.size := ⟨_, rfl⟩
  rw [← y4] at A4 D4 st4
  have K4 := keep_ext E4
  have ne_b2_b4 : b2 ≠ b4 := Ary.neS B3 y4
  have g_b4 : n0 ≤ b4 := by rw [y4]; exact Z3
  have Z4 := Nat.le_trans Z3 K4.1
  have F4_record : Fld Z h4 b4 "com/example/faden/faden/rank/RecordReader" "record" "[B" .null := D4 (Or.inr (hw _ (wm 11 rfl))) (ty := (.array .byte)) (by decide)
  have F4_at : Fld Z h4 b4 "com/example/faden/faden/rank/RecordReader" "at" "I" (.int (0 : Int32)) := D4 (Or.inl (hw _ (wm 18 rfl))) (ty := .int) (by decide)
  refine OwnFin.step (g' := (mkF m 93 (Lan1c00_3 p0 p1 p2 p3 b2) [(.ref b4)])) X4 (fun t k => st4 _ k) ?_
  refine OwnFin.step (g' := (mkF m 94 (Lan1c00_3 p0 p1 p2 p3 b2) [(.ref b4), (.ref b4)])) X4 (fun t k => XS.dup X4.here hx rfl (hb hby at_93) rfl rfl k) ?_
  refine OwnFin.step (g' := (mkF m 96 (Lan1c00_3 p0 p1 p2 p3 b2) [(.ref b2), (.ref b4), (.ref b4)])) X4 (fun t k => XS.aload X4.here hx rfl (hb hby at_94) rfl rfl k) ?_
  obtain ⟨_, T5, L5, X5, ⟨rfl, N5q, u6, u7, u8, u9⟩, st5⟩ := own_callI X4 hx hZ (y := (⟨"com/example/faden/faden/rank/RecordReader", "<init>", "([B)V"⟩ : MethodName)) (W := 1) (a := b4) (argsL := [(.ref b2)]) (rest := [(.ref b4)]) rfl hown (hw _ (wm 4 rfl)) (hw _ (wm 5 rfl)) (hw _ (wm 3 rfl)) (hw _ (wm 6 rfl)) (by decide) (rm1 l Z a0 hw [] b4 b2 h4 n0 Z4 A4 g_b4 F4_record F4_at) (by decide) (by decide) (by decide) (by decide) e4 (g := (mkF m 96 (Lan1c00_3 p0 p1 p2 p3 b2) [(.ref b2), (.ref b4), (.ref b4)])) rfl (by rw [hml]; rfl) pd_0 rfl rfl (by show 2 * 0 + _ ≤ _; exact Nat.le_of_eq rfl) (hb hby at_96)
  have N5 := Fr.app N3 N5q
  obtain ⟨h5, e5⟩ : ∃ z, T5.heap = z := ⟨_, rfl⟩
  rw [e5] at u6 u7 u8 u9
  have K5 := u6
  have Z5 := Nat.le_trans Z4 K5.1
  refine OwnFin.step (g' := (mkF m 99 (Lan1c00_3 p0 p1 p2 p3 b2) [(.ref b4)])) X5 (fun t k => st5 _ k) ?_
  refine OwnFin.step (g' := (mkF m 101 (Lan1c00_4 p0 p1 p2 p3 b2 b4) [])) X5 (fun t k => XS.astore X5.here hx rfl (hb hby at_99) rfl rfl (l' := (Lan1c00_4 p0 p1 p2 p3 b2 b4)) rfl k) ?_
  refine OwnFin.step (g' := (mkF m 103 (Lan1c00_4 p0 p1 p2 p3 b2 b4) [(.ref b4)])) X5 (fun t k => XS.aload X5.here hx rfl (hb hby at_101) rfl rfl k) ?_
  have A11 := ((B3.keep K4 nin0).keep K5 (ninS ne_b2_b4 nin0))
  obtain ⟨_, T10, L10, X10, ⟨rfl, N10q, u12⟩, st10⟩ := own_callV X5 hx hZ (y := (⟨"com/example/faden/faden/rank/RecordReader", "atEnd", "()Z"⟩ : MethodName)) (W := 0) (a := b4) (argsL := []) (rest := []) hown (hw _ (wm 12 rfl)) (hw _ (wm 13 rfl)) (hw _ (wm 15 rfl)) (hw _ (wm 14 rfl)) (hw _ (wm 3 rfl)) (hw _ (wm 16 rfl)) (by decide) u7 (rm3 l Z a0 hw [] b4 1 (Gn1c00_59 p0) b2 (0 : Int32) h5 n0 Z5 u7 g_b4 u8 u9 A11 (Ne.symm ne_b2_b4)) (by decide) (by decide) (by decide) (by decide) e5 (g := (mkF m 103 (Lan1c00_4 p0 p1 p2 p3 b2 b4) [(.ref b4)])) rfl (by rw [hml]; rfl) pd_1 rfl rfl (by show 2 * 0 + _ ≤ _; exact Nat.le_of_eq rfl) (hb hby at_103)
  have N10 := Fr.app N5 N10q
  obtain ⟨h10, e10⟩ : ∃ z, T10.heap = z := ⟨_, rfl⟩
  rw [e10] at u12
  have K10 := u12
  have Z10 := Nat.le_trans Z5 K10.1
  rw [show (nar .boolean (v3_17 (0 : Int32) 1)) = (0 : Int32) from by decide] at st10
  refine OwnFin.step (g' := (mkF m 106 (Lan1c00_4 p0 p1 p2 p3 b2 b4) [(.int (0 : Int32))])) X10 (fun t k => st10 _ k) ?_
  refine OwnFin.step (g' := (mkF m 108 (Lan1c00_4 p0 p1 p2 p3 b2 b4) [(.int (1 : Int32)), (.int (0 : Int32))])) X10 (fun t k => XS.iload X10.here hx rfl (hb hby at_106) rfl k) ?_
  refine OwnFin.step (g' := (mkF m 115 (Lan1c00_4 p0 p1 p2 p3 b2 b4) [(.int (0 : Int32))])) X10 (fun t k => XS.ifYes X10.here hx rfl (pc0 := 108) (pc' := 115) rfl (hb hby at_108) rfl ((if0 _ _).trans (feq (by decide)).2) (by decide) (by decide) k) ?_
  refine OwnFin.step (g' := (mkF m 116 (Lan1c00_4 p0 p1 p2 p3 b2 b4) [(.int (0 : Int32)), (.int (0 : Int32))])) X10 (fun t k => XS.iconst X10.here hx rfl (hb hby at_115) k) ?_
  refine OwnFin.step (g' := (mkF m 119 (Lan1c00_4 p0 p1 p2 p3 b2 b4) [])) X10 (fun t k => XS.icmpNo X10.here hx rfl (hb hby at_116) rfl (teq (by decide)).2 k) ?_
  refine OwnFin.step (g' := (mkF m 120 (Lan1c00_4 p0 p1 p2 p3 b2 b4) [(.int (1 : Int32))])) X10 (fun t k => XS.iconst X10.here hx rfl (hb hby at_119) k) ?_
  refine OwnFin.step (g' := (mkF m 124 (Lan1c00_4 p0 p1 p2 p3 b2 b4) [(.int (1 : Int32))])) X10 (fun t k => XS.goto X10.here hx rfl (pc0 := 120) (pc' := 124) rfl (hb hby at_120) (by decide) (by decide) k) ?_
  refine OwnFin.step (g' := (mkF m 126 (Lan1c00_5 p0 p1 p2 p3 b2 b4) [])) X10 (fun t k => XS.istore X10.here hx rfl (hb hby at_124) rfl (l' := (Lan1c00_5 p0 p1 p2 p3 b2 b4)) rfl k) ?_
  refine OwnFin.step (g' := (mkF m 127 (Lan1c00_5 p0 p1 p2 p3 b2 b4) [(.int (0 : Int32))])) X10 (fun t k => XS.iconst X10.here hx rfl (hb hby at_126) k) ?_
  refine OwnFin.step (g' := (mkF m 129 (Lan1c00_6 p0 p1 p2 p3 b2 b4) [])) X10 (fun t k => XS.istore X10.here hx rfl (hb hby at_127) rfl (l' := (Lan1c00_6 p0 p1 p2 p3 b2 b4)) rfl k) ?_
  refine OwnFin.step (g' := (mkF m 131 (Lan1c00_6 p0 p1 p2 p3 b2 b4) [(.int (1 : Int32))])) X10 (fun t k => XS.iload X10.here hx rfl (hb hby at_129) rfl k) ?_
  refine OwnFin.step (g' := (mkF m 132 (Lan1c00_6 p0 p1 p2 p3 b2 b4) [(.int (1 : Int32)), (.int (1 : Int32))])) X10 (fun t k => XS.iconst X10.here hx rfl (hb hby at_131) k) ?_
  refine OwnFin.step (g' := (mkF m 135 (Lan1c00_6 p0 p1 p2 p3 b2 b4) [])) X10 (fun t k => XS.icmpNo X10.here hx rfl (hb hby at_132) rfl (flt (by decide)).1 k) ?_
  refine OwnFin.step (g' := (mkF m 137 (Lan1c00_6 p0 p1 p2 p3 b2 b4) [(.ref b4)])) X10 (fun t k => XS.aload X10.here hx rfl (hb hby at_135) rfl rfl k) ?_
  have E14 := (Exa.keep u7 K10)
  have F15 := (u8.keep K10 nin0)
  have F16 := (u9.keep K10 nin0)
  have A17 := (A11.keep K10 nin0)
  obtain ⟨_, T13, L13, X13, ⟨rfl, N13q, u18, u19, u20, u21⟩, st13⟩ := own_callV X10 hx hZ (y := (⟨"com/example/faden/faden/rank/RecordReader", "number", "()I"⟩ : MethodName)) (W := 0) (a := b4) (argsL := []) (rest := []) hown (hw _ (wm 19 rfl)) (hw _ (wm 20 rfl)) (hw _ (wm 22 rfl)) (hw _ (wm 21 rfl)) (hw _ (wm 3 rfl)) (hw _ (wm 23 rfl)) (by decide) E14 (rm4a0k1 l Z a0 hw [] b4 1 (Gn1c00_59 p0) b2 h10 n0 Z10 E14 g_b4 F15 F16 A17 (Ne.symm ne_b2_b4) (exhlnn1c00_137 p3 hn) (exhb0n1c00_137 p0 p3 hn)) (by decide) (by decide) (by decide) (by decide) e10 (g := (mkF m 137 (Lan1c00_6 p0 p1 p2 p3 b2 b4) [(.ref b4)])) rfl (by rw [hml]; rfl) pd_2 rfl rfl (by show 2 * 0 + _ ≤ _; exact Nat.le_of_eq rfl) (hb hby at_137)
  have N13 := Fr.app N10 N13q
  obtain ⟨h13, e13⟩ : ∃ z, T13.heap = z := ⟨_, rfl⟩
  rw [e13] at u18 u19 u20 u21
  have K13 := u18
  have Z13 := Nat.le_trans Z10 K13.1
  refine OwnFin.step (g' := (mkF m 140 (Lan1c00_6 p0 p1 p2 p3 b2 b4) [(.int (va0k14_77 (Gn1c00_59 p0)))])) X13 (fun t k => st13 _ k) ?_
  refine OwnFin.step (g' := (mkF m 141 (Lan1c00_6 p0 p1 p2 p3 b2 b4) [])) X13 (fun t k => XT.pop X13.here hx rfl (hb hby at_140) rfl rfl k) ?_
  refine OwnFin.step (g' := (mkF m 143 (Lan1c00_6 p0 p1 p2 p3 b2 b4) [(.int (0 : Int32))])) X13 (fun t k => XS.iload X13.here hx rfl (hb hby at_141) rfl k) ?_
  refine OwnFin.step (g' := (mkF m 145 (Lan1c00_6 p0 p1 p2 p3 b2 b4) [(.int (0 : Int32)), (.int (0 : Int32))])) X13 (fun t k => XS.iload X13.here hx rfl (hb hby at_143) rfl k) ?_
  refine OwnFin.step (g' := (mkF m 152 (Lan1c00_6 p0 p1 p2 p3 b2 b4) [(.int (0 : Int32))])) X13 (fun t k => XS.ifYes X13.here hx rfl (pc0 := 145) (pc' := 152) rfl (hb hby at_145) rfl ((if0 _ _).trans (teq (by decide)).1) (by decide) (by decide) k) ?_
  refine OwnFin.step (g' := (mkF m 153 (Lan1c00_6 p0 p1 p2 p3 b2 b4) [(.int (1 : Int32)), (.int (0 : Int32))])) X13 (fun t k => XS.iconst X13.here hx rfl (hb hby at_152) k) ?_
  refine OwnFin.step (g' := (mkF m 154 (Lan1c00_6 p0 p1 p2 p3 b2 b4) [(.int (1 : Int32))])) X13 (fun t k => XS.iadd X13.here hx rfl (hb hby at_153) rfl k) ?_
  refine OwnFin.step (g' := (mkF m 156 (Lan1c00_7 p0 p1 p2 p3 b2 b4) [])) X13 (fun t k => XS.istore X13.here hx rfl (hb hby at_154) rfl (l' := (Lan1c00_7 p0 p1 p2 p3 b2 b4)) rfl k) ?_
  refine OwnFin.step (g' := (mkF m 158 (Lan1c00_7 p0 p1 p2 p3 b2 b4) [(.int (1 : Int32))])) X13 (fun t k => XS.iload X13.here hx rfl (hb hby at_156) rfl k) ?_
  refine OwnFin.step (g' := (mkF m 161 (Lan1c00_7 p0 p1 p2 p3 b2 b4) [])) X13 (fun t k => XS.ifNo X13.here hx rfl (hb hby at_158) rfl ((if0 _ _).trans (feq (by decide)).1) k) ?_
  refine OwnFin.step (g' := (mkF m 163 (Lan1c00_7 p0 p1 p2 p3 b2 b4) [(.ref b4)])) X13 (fun t k => XS.aload X13.here hx rfl (hb hby at_161) rfl rfl k) ?_
  have A23 := (A17.keep K13 (ninS ne_b2_b4 nin0))
  obtain ⟨_, T22, L22, X22, ⟨rfl, N22q, u24⟩, st22⟩ := own_callV X13 hx hZ (y := (⟨"com/example/faden/faden/rank/RecordReader", "atEnd", "()Z"⟩ : MethodName)) (W := 0) (a := b4) (argsL := []) (rest := []) hown (hw _ (wm 12 rfl)) (hw _ (wm 13 rfl)) (hw _ (wm 15 rfl)) (hw _ (wm 14 rfl)) (hw _ (wm 3 rfl)) (hw _ (wm 16 rfl)) (by decide) u19 (rm3 l Z a0 hw [] b4 1 (Gn1c00_59 p0) b2 (1 : Int32) h13 n0 Z13 u19 g_b4 u20 u21 A23 (Ne.symm ne_b2_b4)) (by decide) (by decide) (by decide) (by decide) e13 (g := (mkF m 163 (Lan1c00_7 p0 p1 p2 p3 b2 b4) [(.ref b4)])) rfl (by rw [hml]; rfl) pd_1 rfl rfl (by show 2 * 0 + _ ≤ _; exact Nat.le_of_eq rfl) (hb hby at_163)
  have N22 := Fr.app N13 N22q
  obtain ⟨h22, e22⟩ : ∃ z, T22.heap = z := ⟨_, rfl⟩
  rw [e22] at u24
  have K22 := u24
  have Z22 := Nat.le_trans Z13 K22.1
  rw [show (nar .boolean (v3_17 (1 : Int32) 1)) = (1 : Int32) from by decide] at st22
  refine OwnFin.step (g' := (mkF m 166 (Lan1c00_7 p0 p1 p2 p3 b2 b4) [(.int (1 : Int32))])) X22 (fun t k => st22 _ k) ?_
  refine OwnFin.step (g' := (mkF m 168 (Lan1c00_7 p0 p1 p2 p3 b2 b4) [(.int (1 : Int32)), (.int (1 : Int32))])) X22 (fun t k => XS.iload X22.here hx rfl (hb hby at_166) rfl k) ?_
  refine OwnFin.step (g' := (mkF m 170 (Lan1c00_7 p0 p1 p2 p3 b2 b4) [(.int (1 : Int32)), (.int (1 : Int32)), (.int (1 : Int32))])) X22 (fun t k => XS.iload X22.here hx rfl (hb hby at_168) rfl k) ?_
  refine OwnFin.step (g' := (mkF m 173 (Lan1c00_7 p0 p1 p2 p3 b2 b4) [(.int (1 : Int32))])) X22 (fun t k => XS.icmpNo X22.here hx rfl (hb hby at_170) rfl (teq (by decide)).2 k) ?_
  refine OwnFin.step (g' := (mkF m 174 (Lan1c00_7 p0 p1 p2 p3 b2 b4) [(.int (1 : Int32)), (.int (1 : Int32))])) X22 (fun t k => XS.iconst X22.here hx rfl (hb hby at_173) k) ?_
  refine OwnFin.step (g' := (mkF m 178 (Lan1c00_7 p0 p1 p2 p3 b2 b4) [(.int (1 : Int32)), (.int (1 : Int32))])) X22 (fun t k => XS.goto X22.here hx rfl (pc0 := 174) (pc' := 178) rfl (hb hby at_174) (by decide) (by decide) k) ?_
  refine OwnFin.step (g' := (mkF m 181 (Lan1c00_7 p0 p1 p2 p3 b2 b4) [])) X22 (fun t k => XS.icmpNo X22.here hx rfl (hb hby at_178) rfl (teq (by decide)).2 k) ?_
  refine OwnFin.step (g' := (mkF m 182 (Lan1c00_7 p0 p1 p2 p3 b2 b4) [(.int (1 : Int32))])) X22 (fun t k => XS.iconst X22.here hx rfl (hb hby at_181) k) ?_
  refine OwnFin.step (g' := (mkF m 186 (Lan1c00_7 p0 p1 p2 p3 b2 b4) [(.int (1 : Int32))])) X22 (fun t k => XS.goto X22.here hx rfl (pc0 := 182) (pc' := 186) rfl (hb hby at_182) (by decide) (by decide) k) ?_
  refine OwnFin.step (g' := (mkF m 188 (Lan1c00_7 p0 p1 p2 p3 b2 b4) [])) X22 (fun t k => XS.istore X22.here hx rfl (hb hby at_186) rfl (l' := (Lan1c00_7 p0 p1 p2 p3 b2 b4)) rfl k) ?_
  refine OwnFin.step (g' := (mkF m 190 (Lan1c00_7 p0 p1 p2 p3 b2 b4) [(.int (1 : Int32))])) X22 (fun t k => XS.iload X22.here hx rfl (hb hby at_188) rfl k) ?_
  refine OwnFin.step (g' := (mkF m 192 (Lan1c00_7 p0 p1 p2 p3 b2 b4) [(.int (1 : Int32)), (.int (1 : Int32))])) X22 (fun t k => XS.iload X22.here hx rfl (hb hby at_190) rfl k) ?_
  refine OwnFin.step (g' := (mkF m 239 (Lan1c00_7 p0 p1 p2 p3 b2 b4) [])) X22 (fun t k => XS.icmpYes X22.here hx rfl (pc0 := 192) (pc' := 239) rfl (hb hby at_192) rfl (flt (by decide)).2.1 (by decide) (by decide) k) ?_
  refine OwnFin.step (g' := (mkF m 241 (Lan1c00_7 p0 p1 p2 p3 b2 b4) [(.int (1 : Int32))])) X22 (fun t k => XS.iload X22.here hx rfl (hb hby at_239) rfl k) ?_
  refine OwnFin.step (g' := (mkF m 243 (Lan1c00_7 p0 p1 p2 p3 b2 b4) [(.int (1 : Int32)), (.int (1 : Int32))])) X22 (fun t k => XS.iload X22.here hx rfl (hb hby at_241) rfl k) ?_
  refine OwnFin.step (g' := (mkF m 290 (Lan1c00_7 p0 p1 p2 p3 b2 b4) [])) X22 (fun t k => XS.icmpYes X22.here hx rfl (pc0 := 243) (pc' := 290) rfl (hb hby at_243) rfl (flt (by decide)).2.1 (by decide) (by decide) k) ?_
  refine OwnFin.step (g' := (mkF m 292 (Lan1c00_7 p0 p1 p2 p3 b2 b4) [(.int (1 : Int32))])) X22 (fun t k => XS.iload X22.here hx rfl (hb hby at_290) rfl k) ?_
  refine OwnFin.step (g' := (mkF m 295 (Lan1c00_7 p0 p1 p2 p3 b2 b4) [])) X22 (fun t k => XS.ifNo X22.here hx rfl (hb hby at_292) rfl ((if0 _ _).trans (feq (by decide)).1) k) ?_
  refine OwnFin.step (g' := (mkF m 297 (Lan1c00_7 p0 p1 p2 p3 b2 b4) [(.ref b4)])) X22 (fun t k => XS.aload X22.here hx rfl (hb hby at_295) rfl rfl k) ?_
  have E26 := (Exa.keep u19 K22)
  have F27 := (u20.keep K22 nin0)
  have F28 := (u21.keep K22 nin0)
  have A29 := (A23.keep K22 nin0)
  obtain ⟨_, T25, L25, X25, ⟨rfl, N25q, u30⟩, st25⟩ := own_callV X22 hx hZ (y := (⟨"com/example/faden/faden/rank/RecordReader", "atEnd", "()Z"⟩ : MethodName)) (W := 0) (a := b4) (argsL := []) (rest := []) hown (hw _ (wm 12 rfl)) (hw _ (wm 13 rfl)) (hw _ (wm 15 rfl)) (hw _ (wm 14 rfl)) (hw _ (wm 3 rfl)) (hw _ (wm 16 rfl)) (by decide) E26 (rm3 l Z a0 hw [] b4 1 (Gn1c00_59 p0) b2 (1 : Int32) h22 n0 Z22 E26 g_b4 F27 F28 A29 (Ne.symm ne_b2_b4)) (by decide) (by decide) (by decide) (by decide) e22 (g := (mkF m 297 (Lan1c00_7 p0 p1 p2 p3 b2 b4) [(.ref b4)])) rfl (by rw [hml]; rfl) pd_1 rfl rfl (by show 2 * 0 + _ ≤ _; exact Nat.le_of_eq rfl) (hb hby at_297)
  have N25 := Fr.app N22 N25q
  obtain ⟨h25, e25⟩ : ∃ z, T25.heap = z := ⟨_, rfl⟩
  rw [e25] at u30
  have K25 := u30
  have Z25 := Nat.le_trans Z22 K25.1
  rw [show (nar .boolean (v3_17 (1 : Int32) 1)) = (1 : Int32) from by decide] at st25
  refine OwnFin.step (g' := (mkF m 300 (Lan1c00_7 p0 p1 p2 p3 b2 b4) [(.int (1 : Int32))])) X25 (fun t k => st25 _ k) ?_
  refine OwnFin.step (g' := (mkF m 303 (Lan1c00_7 p0 p1 p2 p3 b2 b4) [])) X25 (fun t k => XS.ifNo X25.here hx rfl (hb hby at_300) rfl ((if0 _ _).trans (feq (by decide)).1) k) ?_
  refine OwnFin.step (g' := (mkF m 304 (Lan1c00_7 p0 p1 p2 p3 b2 b4) [(.int (1 : Int32))])) X25 (fun t k => XS.iconst X25.here hx rfl (hb hby at_303) k) ?_
  refine OwnFin.step (g' := (mkF m 308 (Lan1c00_7 p0 p1 p2 p3 b2 b4) [(.int (1 : Int32))])) X25 (fun t k => XS.goto X25.here hx rfl (pc0 := 304) (pc' := 308) rfl (hb hby at_304) (by decide) (by decide) k) ?_
  refine OwnFin.step (g' := (mkF m 310 (Lan1c00_7 p0 p1 p2 p3 b2 b4) [])) X25 (fun t k => XS.istore X25.here hx rfl (hb hby at_308) rfl (l' := (Lan1c00_7 p0 p1 p2 p3 b2 b4)) rfl k) ?_
  refine OwnFin.step (g' := (mkF m 312 (Lan1c00_7 p0 p1 p2 p3 b2 b4) [(.int (1 : Int32))])) X25 (fun t k => XS.iload X25.here hx rfl (hb hby at_310) rfl k) ?_
  refine OwnFin.retNar X25 (by simp) (hb hby at_312) (by decide) (by decide) ?_
  exact ⟨rfl, N25⟩
set_option maxRecDepth 65536 in
set_option maxHeartbeats 40000000 in
theorem rm0n1c0 (l : Launch) (Z : State) (a0 : Array Value) (hw : ∀ d ∈ tables_1, d.before a0 Z = true) (ws : List Jvm.Cond) (p0 : Int32) (p1 : Int32) (p2 : Int32) (p3 : Int32) (h0 : Heap) (n0 : Nat) (Z0 : n0 ≤ h0.size) (hn : vn1c00_3 p3 = (1 : Int32)) :
    MetFree l x (head1 (Jvm.Cond.code x code maxLocals ret :: ws) room_1) (fun a U => a = #[(.int p0), (.int p1), (.int p2), (.int p3)] ∧ Z.Warmed39 U.vm ∧ U.heap = h0) (fun _ _ _ _ _ => True) (fun _ U o U' => ∃ v L, o = .returned v ∧ (LQ n0) v U'.heap L ∧ FrameEnd U o U' L room_1.cells room_1.slots) :=
  own_met (ret := ret) (Q := (LQ n0)) (plainFor_of_name pn_0) (fun m => ef_0 m p0 p1 p2 p3) (fun p e s m below meth c s₁ X hx hby hml hown hnm hZ e0 => j0n1c0 X hx hZ hw hby hml hown hnm e0 (Fr.nil n0) Z0 p0 p1 p2 p3 hn)
def vn2c00_3 (p3 : Int32) : Int32 := (p3 &&& (3 : Int32))
def vn2c00_22 (p3 : Int32) : Int32 := (if (p3 &&& (4 : Int32)) = (0 : Int32) then (0 : Int32) else (1 : Int32))
def Gn2c00_59 (p0 : Int32) : Nat → Int32 := (updN (fun _ => (0 : Int32)) ((0 : Int32)).toNatClampNeg (nar .byte ((p0 &&& (127 : Int32)).toInt8.toInt32)))
def Gn2c00_74 (p0 : Int32) (p1 : Int32) : Nat → Int32 := (updN (Gn2c00_59 p0) ((1 : Int32)).toNatClampNeg (nar .byte ((p1 &&& (127 : Int32)).toInt8.toInt32)))
theorem exhlnn2c00_137 (p3 : Int32) (hn : vn2c00_3 p3 = (2 : Int32)) (hm : vn2c00_22 p3 = (0 : Int32)) : 1 ≤ 2 ∧ 2 < 100 := by decide
theorem exhb0n2c00_137 (p0 : Int32) (p1 : Int32) (p3 : Int32) (hn : vn2c00_3 p3 = (2 : Int32)) (hm : vn2c00_22 p3 = (0 : Int32)) : (((Gn2c00_74 p0 p1) 0) &&& 255).toInt < 128 := by
  have b := own_b127 p0
  have h : (((Gn2c00_74 p0 p1) 0) &&& 255).toInt = (p0 &&& 127).toInt := own_lo b
  omega
theorem exhlnn2c00_197 (p3 : Int32) (hn : vn2c00_3 p3 = (2 : Int32)) (hm : vn2c00_22 p3 = (0 : Int32)) : 2 ≤ 2 ∧ 2 < 100 := by decide
theorem exhb0n2c00_197 (p0 : Int32) (p1 : Int32) (p3 : Int32) (hn : vn2c00_3 p3 = (2 : Int32)) (hm : vn2c00_22 p3 = (0 : Int32)) : (((Gn2c00_74 p0 p1) 1) &&& 255).toInt < 128 := by
  have b := own_b127 p1
  have h : (((Gn2c00_74 p0 p1) 1) &&& 255).toInt = (p1 &&& 127).toInt := own_lo b
  omega
abbrev Lan2c00_0 (p0 : Int32) (p1 : Int32) (p2 : Int32) (p3 : Int32) : Array Slot := #[.val (.int p0), .val (.int p1), .val (.int p2), .val (.int p3), .unset, .unset, .unset, .unset, .unset, .unset]
abbrev Lan2c00_1 (p0 : Int32) (p1 : Int32) (p2 : Int32) (p3 : Int32) : Array Slot := #[.val (.int p0), .val (.int p1), .val (.int p2), .val (.int p3), .val (.int (2 : Int32)), .unset, .unset, .unset, .unset, .unset]
abbrev Lan2c00_2 (p0 : Int32) (p1 : Int32) (p2 : Int32) (p3 : Int32) : Array Slot := #[.val (.int p0), .val (.int p1), .val (.int p2), .val (.int p3), .val (.int (2 : Int32)), .val (.int (0 : Int32)), .unset, .unset, .unset, .unset]
abbrev Lan2c00_3 (p0 : Int32) (p1 : Int32) (p2 : Int32) (p3 : Int32) (b4 : Addr) : Array Slot := #[.val (.int p0), .val (.int p1), .val (.int p2), .val (.int p3), .val (.int (2 : Int32)), .val (.int (0 : Int32)), .val (.ref b4), .unset, .unset, .unset]
abbrev Lan2c00_4 (p0 : Int32) (p1 : Int32) (p2 : Int32) (p3 : Int32) (b4 : Addr) (b7 : Addr) : Array Slot := #[.val (.int p0), .val (.int p1), .val (.int p2), .val (.int p3), .val (.int (2 : Int32)), .val (.int (0 : Int32)), .val (.ref b4), .val (.ref b7), .unset, .unset]
abbrev Lan2c00_5 (p0 : Int32) (p1 : Int32) (p2 : Int32) (p3 : Int32) (b4 : Addr) (b7 : Addr) : Array Slot := #[.val (.int p0), .val (.int p1), .val (.int p2), .val (.int p3), .val (.int (2 : Int32)), .val (.int (0 : Int32)), .val (.ref b4), .val (.ref b7), .val (.int (1 : Int32)), .unset]
abbrev Lan2c00_6 (p0 : Int32) (p1 : Int32) (p2 : Int32) (p3 : Int32) (b4 : Addr) (b7 : Addr) : Array Slot := #[.val (.int p0), .val (.int p1), .val (.int p2), .val (.int p3), .val (.int (2 : Int32)), .val (.int (0 : Int32)), .val (.ref b4), .val (.ref b7), .val (.int (1 : Int32)), .val (.int (0 : Int32))]
abbrev Lan2c00_7 (p0 : Int32) (p1 : Int32) (p2 : Int32) (p3 : Int32) (b4 : Addr) (b7 : Addr) : Array Slot := #[.val (.int p0), .val (.int p1), .val (.int p2), .val (.int p3), .val (.int (2 : Int32)), .val (.int (0 : Int32)), .val (.ref b4), .val (.ref b7), .val (.int (1 : Int32)), .val (.int (1 : Int32))]
abbrev Lan2c00_8 (p0 : Int32) (p1 : Int32) (p2 : Int32) (p3 : Int32) (b4 : Addr) (b7 : Addr) : Array Slot := #[.val (.int p0), .val (.int p1), .val (.int p2), .val (.int p3), .val (.int (2 : Int32)), .val (.int (0 : Int32)), .val (.ref b4), .val (.ref b7), .val (.int (1 : Int32)), .val (.int (2 : Int32))]
set_option maxRecDepth 65536 in
set_option maxHeartbeats 40000000 in
theorem j0n2c0 {p : Program} {l : Launch} {e : Env} {s : State} {m : MethodId} {args : Array Value} {below : List Frame} {meth : Method} {c : Code} {T0 : State} {locs : List Loc} {Z : State} {a0 : Array Value} {h0 : Heap} {n0 : Nat}
    (X0 : Stand p l e room_1 s m args below meth c T0 locs 0 0) (hx : p.tables.exec = Jvm.exec) (hZ : Z.Warmed39 s.vm) (hw : ∀ d ∈ tables_1, d.before a0 Z = true) (hby : c.code = code) (hml : c.maxLocals = 10) (hown : s.vm.findClass "com/example/faden/faden/rank/RecordReaderAtEndPinLaw" = some m.cls) (hnm : meth.name = "law") (e0 : T0.heap = h0) (N0 : Fr n0 locs) (Z0 : n0 ≤ h0.size) (p0 : Int32) (p1 : Int32) (p2 : Int32) (p3 : Int32) (hn : vn2c00_3 p3 = (2 : Int32)) (hm : vn2c00_22 p3 = (0 : Int32)) :
    OwnFin X0 (some .boolean) (LQ n0) room_1.cells room_1.slots (mkF m 0 #[.val (.int p0), .val (.int p1), .val (.int p2), .val (.int p3), .unset, .unset, .unset, .unset, .unset, .unset] []) := by
  refine OwnFin.step (g' := (mkF m 1 (Lan2c00_0 p0 p1 p2 p3) [(.int p3)])) X0 (fun t k => XS.iloadN X0.here hx rfl (hb hby at_0) rfl k) ?_
  refine OwnFin.step (g' := (mkF m 2 (Lan2c00_0 p0 p1 p2 p3) [(.int (3 : Int32)), (.int p3)])) X0 (fun t k => XS.iconst X0.here hx rfl (hb hby at_1) k) ?_
  refine OwnFin.step (g' := (mkF m 3 (Lan2c00_0 p0 p1 p2 p3) [(.int (p3 &&& (3 : Int32)))])) X0 (fun t k => XS.iand X0.here hx rfl (hb hby at_2) rfl k) ?_
  refine OwnFin.step (g' := (mkF m 5 #[.val (.int p0), .val (.int p1), .val (.int p2), .val (.int p3), .val (.int (vn2c00_3 p3)), .unset, .unset, .unset, .unset, .unset] [])) X0 (fun t k => XS.istore X0.here hx rfl (hb hby at_3) rfl (l' := #[.val (.int p0), .val (.int p1), .val (.int p2), .val (.int p3), .val (.int (vn2c00_3 p3)), .unset, .unset, .unset, .unset, .unset]) rfl k) ?_
  rw [hn]
  refine OwnFin.step (g' := (mkF m 6 (Lan2c00_1 p0 p1 p2 p3) [(.int p3)])) X0 (fun t k => XS.iloadN X0.here hx rfl (hb hby at_5) rfl k) ?_
  refine OwnFin.step (g' := (mkF m 7 (Lan2c00_1 p0 p1 p2 p3) [(.int (4 : Int32)), (.int p3)])) X0 (fun t k => XS.iconst X0.here hx rfl (hb hby at_6) k) ?_
  refine OwnFin.step (g' := (mkF m 8 (Lan2c00_1 p0 p1 p2 p3) [(.int (p3 &&& (4 : Int32)))])) X0 (fun t k => XS.iand X0.here hx rfl (hb hby at_7) rfl k) ?_
  refine OwnFin.step (g' := (mkF m 22 #[.val (.int p0), .val (.int p1), .val (.int p2), .val (.int p3), .val (.int (2 : Int32)), .unset, .unset, .unset, .unset, .unset] [(.int (vn2c00_22 p3))])) X0 (fun t k => ?_) ?_
  · show Steps p.tables e below (T0.setTop (mkF m 8 (Lan2c00_1 p0 p1 p2 p3) [(.int (p3 &&& (4 : Int32)))])) t
    by_cases hc1 : (p3 &&& (4 : Int32)) = (0 : Int32)
    · skip
      refine XS.ifYes X0.here hx rfl (pc0 := 8) (pc' := 21) rfl (hb hby at_8) rfl ((if0 _ _).trans (teq hc1).1) (by decide) (by decide) ?_
      show Steps p.tables e below (T0.setTop (mkF m 21 (Lan2c00_1 p0 p1 p2 p3) [])) t
      refine XS.iconst X0.here hx rfl (hb hby at_21) ?_
      show Steps p.tables e below (T0.setTop (mkF m 22 (Lan2c00_1 p0 p1 p2 p3) [(.int (0 : Int32))])) t
      have q2 : (vn2c00_22 p3) = (0 : Int32) := by
        show (if (p3 &&& (4 : Int32)) = (0 : Int32) then (0 : Int32) else (1 : Int32)) = (0 : Int32)
        simp only [if_pos hc1]
      rw [q2] at k
      exact k
    · skip
      refine XS.ifNo X0.here hx rfl (hb hby at_8) rfl ((if0 _ _).trans (feq hc1).1) ?_
      show Steps p.tables e below (T0.setTop (mkF m 11 (Lan2c00_1 p0 p1 p2 p3) [])) t
      refine XS.iload X0.here hx rfl (hb hby at_11) rfl ?_
      show Steps p.tables e below (T0.setTop (mkF m 13 (Lan2c00_1 p0 p1 p2 p3) [(.int (2 : Int32))])) t
      refine XS.iconst X0.here hx rfl (hb hby at_13) ?_
      show Steps p.tables e below (T0.setTop (mkF m 14 (Lan2c00_1 p0 p1 p2 p3) [(.int (2 : Int32)), (.int (2 : Int32))])) t
      refine XS.icmpNo X0.here hx rfl (hb hby at_14) rfl (flt (by decide)).1 ?_
      show Steps p.tables e below (T0.setTop (mkF m 17 (Lan2c00_1 p0 p1 p2 p3) [])) t
      refine XS.iconst X0.here hx rfl (hb hby at_17) ?_
      show Steps p.tables e below (T0.setTop (mkF m 18 (Lan2c00_1 p0 p1 p2 p3) [(.int (1 : Int32))])) t
      refine XS.goto X0.here hx rfl (pc0 := 18) (pc' := 22) rfl (hb hby at_18) (by decide) (by decide) ?_
      show Steps p.tables e below (T0.setTop (mkF m 22 (Lan2c00_1 p0 p1 p2 p3) [(.int (1 : Int32))])) t
      have q3 : (vn2c00_22 p3) = (1 : Int32) := by
        show (if (p3 &&& (4 : Int32)) = (0 : Int32) then (0 : Int32) else (1 : Int32)) = (1 : Int32)
        simp only [if_neg hc1]
      rw [q3] at k
      exact k
  refine OwnFin.step (g' := (mkF m 24 #[.val (.int p0), .val (.int p1), .val (.int p2), .val (.int p3), .val (.int (2 : Int32)), .val (.int (vn2c00_22 p3)), .unset, .unset, .unset, .unset] [])) X0 (fun t k => XS.istore X0.here hx rfl (hb hby at_22) rfl (l' := #[.val (.int p0), .val (.int p1), .val (.int p2), .val (.int p3), .val (.int (2 : Int32)), .val (.int (vn2c00_22 p3)), .unset, .unset, .unset, .unset]) rfl k) ?_
  rw [hm]
  refine OwnFin.step (g' := (mkF m 26 (Lan2c00_2 p0 p1 p2 p3) [(.int (2 : Int32))])) X0 (fun t k => XS.iload X0.here hx rfl (hb hby at_24) rfl k) ?_
  obtain ⟨T4, h4, b4, X4, e4, y4, K4, A4, st4⟩ := own_new X0 hx hZ (hw _ (wm 0 rfl)) e0 (g := (mkF m 26 (Lan2c00_2 p0 p1 p2 p3) [(.int (2 : Int32))])) rfl (hb hby at_26) rfl (by decide) (cap := 2) (by decide) (by decide) (by decide) (by decide)
  have B4 : Ary Z h4 b4 .byte 2 (fun i => .int ((fun _ => (0 : Int32)) i)) := A4
  have g_b4 : n0 ≤ b4 := by rw [y4]; exact Z0
  have Z4 := Nat.le_trans Z0 K4.1
  refine OwnFin.step (g' := (mkF m 28 (Lan2c00_2 p0 p1 p2 p3) [(.ref b4)])) X4 (fun t k => st4 _ k) ?_
  refine OwnFin.step (g' := (mkF m 30 (Lan2c00_3 p0 p1 p2 p3 b4) [])) X4 (fun t k => XS.astore X4.here hx rfl (hb hby at_28) rfl rfl (l' := (Lan2c00_3 p0 p1 p2 p3 b4)) rfl k) ?_
  refine OwnFin.step (g' := (mkF m 32 (Lan2c00_3 p0 p1 p2 p3 b4) [(.int (2 : Int32))])) X4 (fun t k => XS.iload X4.here hx rfl (hb hby at_30) rfl k) ?_
  refine OwnFin.step (g' := (mkF m 35 (Lan2c00_3 p0 p1 p2 p3 b4) [])) X4 (fun t k => XS.ifNo X4.here hx rfl (hb hby at_32) rfl ((if0 _ _).trans (tlt (by decide)).2.2.2) k) ?_
  refine OwnFin.step (g' := (mkF m 37 (Lan2c00_3 p0 p1 p2 p3 b4) [(.ref b4)])) X4 (fun t k => XS.aload X4.here hx rfl (hb hby at_35) rfl rfl k) ?_
  refine OwnFin.step (g' := (mkF m 38 (Lan2c00_3 p0 p1 p2 p3 b4) [(.int (0 : Int32)), (.ref b4)])) X4 (fun t k => XS.iconst X4.here hx rfl (hb hby at_37) k) ?_
  refine OwnFin.step (g' := (mkF m 40 (Lan2c00_3 p0 p1 p2 p3 b4) [(.int (0 : Int32)), (.int (0 : Int32)), (.ref b4)])) X4 (fun t k => XS.iload X4.here hx rfl (hb hby at_38) rfl k) ?_
  refine OwnFin.step (g' := (mkF m 54 (Lan2c00_3 p0 p1 p2 p3 b4) [(.int (0 : Int32)), (.ref b4)])) X4 (fun t k => XS.ifYes X4.here hx rfl (pc0 := 40) (pc' := 54) rfl (hb hby at_40) rfl ((if0 _ _).trans (teq (by decide)).1) (by decide) (by decide) k) ?_
  refine OwnFin.step (g' := (mkF m 55 (Lan2c00_3 p0 p1 p2 p3 b4) [(.int p0), (.int (0 : Int32)), (.ref b4)])) X4 (fun t k => XS.iloadN X4.here hx rfl (hb hby at_54) rfl k) ?_
  refine OwnFin.step (g' := (mkF m 57 (Lan2c00_3 p0 p1 p2 p3 b4) [(.int (127 : Int32)), (.int p0), (.int (0 : Int32)), (.ref b4)])) X4 (fun t k => XS.bipush X4.here hx rfl (hb hby at_55) k) ?_
  refine OwnFin.step (g' := (mkF m 58 (Lan2c00_3 p0 p1 p2 p3 b4) [(.int (p0 &&& (127 : Int32))), (.int (0 : Int32)), (.ref b4)])) X4 (fun t k => XS.iand X4.here hx rfl (hb hby at_57) rfl k) ?_
  refine OwnFin.step (g' := (mkF m 59 (Lan2c00_3 p0 p1 p2 p3 b4) [(.int ((p0 &&& (127 : Int32)).toInt8.toInt32)), (.int (0 : Int32)), (.ref b4)])) X4 (fun t k => XT.i2b X4.here hx rfl (hb hby at_58) rfl k) ?_
  obtain ⟨T5, h5, L5, X5, e5, N5, K5, A5, st5⟩ := own_stB X4 hx hZ e4 N0 (G := (fun _ => (0 : Int32))) B4 g_b4 (j := (0 : Int32)) (x := ((p0 &&& (127 : Int32)).toInt8.toInt32)) (by decide) (g := (mkF m 59 (Lan2c00_3 p0 p1 p2 p3 b4) [(.int ((p0 &&& (127 : Int32)).toInt8.toInt32)), (.int (0 : Int32)), (.ref b4)])) rfl rfl (hb hby at_59)
  have B5 : Ary Z h5 b4 .byte 2 (fun i => .int ((Gn2c00_59 p0) i)) := A5
  have Z5 := Nat.le_trans Z4 K5.1
  refine OwnFin.step (g' := (mkF m 60 (Lan2c00_3 p0 p1 p2 p3 b4) [])) X5 (fun t k => st5 _ k) ?_
  refine OwnFin.step (g' := (mkF m 62 (Lan2c00_3 p0 p1 p2 p3 b4) [(.int (2 : Int32))])) X5 (fun t k => XS.iload X5.here hx rfl (hb hby at_60) rfl k) ?_
  refine OwnFin.step (g' := (mkF m 63 (Lan2c00_3 p0 p1 p2 p3 b4) [(.int (1 : Int32)), (.int (2 : Int32))])) X5 (fun t k => XS.iconst X5.here hx rfl (hb hby at_62) k) ?_
  refine OwnFin.step (g' := (mkF m 66 (Lan2c00_3 p0 p1 p2 p3 b4) [])) X5 (fun t k => XS.icmpNo X5.here hx rfl (hb hby at_63) rfl (tlt (by decide)).2.2.2 k) ?_
  refine OwnFin.step (g' := (mkF m 68 (Lan2c00_3 p0 p1 p2 p3 b4) [(.ref b4)])) X5 (fun t k => XS.aload X5.here hx rfl (hb hby at_66) rfl rfl k) ?_
  refine OwnFin.step (g' := (mkF m 69 (Lan2c00_3 p0 p1 p2 p3 b4) [(.int (1 : Int32)), (.ref b4)])) X5 (fun t k => XS.iconst X5.here hx rfl (hb hby at_68) k) ?_
  refine OwnFin.step (g' := (mkF m 70 (Lan2c00_3 p0 p1 p2 p3 b4) [(.int p1), (.int (1 : Int32)), (.ref b4)])) X5 (fun t k => XS.iloadN X5.here hx rfl (hb hby at_69) rfl k) ?_
  refine OwnFin.step (g' := (mkF m 72 (Lan2c00_3 p0 p1 p2 p3 b4) [(.int (127 : Int32)), (.int p1), (.int (1 : Int32)), (.ref b4)])) X5 (fun t k => XS.bipush X5.here hx rfl (hb hby at_70) k) ?_
  refine OwnFin.step (g' := (mkF m 73 (Lan2c00_3 p0 p1 p2 p3 b4) [(.int (p1 &&& (127 : Int32))), (.int (1 : Int32)), (.ref b4)])) X5 (fun t k => XS.iand X5.here hx rfl (hb hby at_72) rfl k) ?_
  refine OwnFin.step (g' := (mkF m 74 (Lan2c00_3 p0 p1 p2 p3 b4) [(.int ((p1 &&& (127 : Int32)).toInt8.toInt32)), (.int (1 : Int32)), (.ref b4)])) X5 (fun t k => XT.i2b X5.here hx rfl (hb hby at_73) rfl k) ?_
  obtain ⟨T6, h6, L6, X6, e6, N6, K6, A6, st6⟩ := own_stB X5 hx hZ e5 N5 (G := (Gn2c00_59 p0)) B5 g_b4 (j := (1 : Int32)) (x := ((p1 &&& (127 : Int32)).toInt8.toInt32)) (by decide) (g := (mkF m 74 (Lan2c00_3 p0 p1 p2 p3 b4) [(.int ((p1 &&& (127 : Int32)).toInt8.toInt32)), (.int (1 : Int32)), (.ref b4)])) rfl rfl (hb hby at_74)
  have B6 : Ary Z h6 b4 .byte 2 (fun i => .int ((Gn2c00_74 p0 p1) i)) := A6
  have Z6 := Nat.le_trans Z5 K6.1
  refine OwnFin.step (g' := (mkF m 75 (Lan2c00_3 p0 p1 p2 p3 b4) [])) X6 (fun t k => st6 _ k) ?_
  refine OwnFin.step (g' := (mkF m 77 (Lan2c00_3 p0 p1 p2 p3 b4) [(.int (2 : Int32))])) X6 (fun t k => XS.iload X6.here hx rfl (hb hby at_75) rfl k) ?_
  refine OwnFin.step (g' := (mkF m 78 (Lan2c00_3 p0 p1 p2 p3 b4) [(.int (2 : Int32)), (.int (2 : Int32))])) X6 (fun t k => XS.iconst X6.here hx rfl (hb hby at_77) k) ?_
  refine OwnFin.step (g' := (mkF m 90 (Lan2c00_3 p0 p1 p2 p3 b4) [])) X6 (fun t k => XS.icmpYes X6.here hx rfl (pc0 := 78) (pc' := 90) rfl (hb hby at_78) rfl (flt (by decide)).2.2.2 (by decide) (by decide) k) ?_
  obtain ⟨T7, h7, X7, e7, E7, A7, D7, -, st7⟩ := newO X6 hx hZ hown (hw _ (wm 1 rfl)) (hw _ (wm 2 rfl)) (hw _ (wm 3 rfl)) e6 (g := (mkF m 90 (Lan2c00_3 p0 p1 p2 p3 b4) [])) rfl (hb hby at_90) (by decide) (by decide)
  obtain ⟨b7, y7⟩ : ∃ z, z = h6.size := ⟨_, rfl⟩
  rw [← y7] at A7 D7 st7
  have K7 := keep_ext E7
  have ne_b4_b7 : b4 ≠ b7 := Ary.neS B6 y7
  have g_b7 : n0 ≤ b7 := by rw [y7]; exact Z6
  have Z7 := Nat.le_trans Z6 K7.1
  have F7_record : Fld Z h7 b7 "com/example/faden/faden/rank/RecordReader" "record" "[B" .null := D7 (Or.inr (hw _ (wm 11 rfl))) (ty := (.array .byte)) (by decide)
  have F7_at : Fld Z h7 b7 "com/example/faden/faden/rank/RecordReader" "at" "I" (.int (0 : Int32)) := D7 (Or.inl (hw _ (wm 18 rfl))) (ty := .int) (by decide)
  refine OwnFin.step (g' := (mkF m 93 (Lan2c00_3 p0 p1 p2 p3 b4) [(.ref b7)])) X7 (fun t k => st7 _ k) ?_
  refine OwnFin.step (g' := (mkF m 94 (Lan2c00_3 p0 p1 p2 p3 b4) [(.ref b7), (.ref b7)])) X7 (fun t k => XS.dup X7.here hx rfl (hb hby at_93) rfl rfl k) ?_
  refine OwnFin.step (g' := (mkF m 96 (Lan2c00_3 p0 p1 p2 p3 b4) [(.ref b4), (.ref b7), (.ref b7)])) X7 (fun t k => XS.aload X7.here hx rfl (hb hby at_94) rfl rfl k) ?_
  obtain ⟨_, T8, L8, X8, ⟨rfl, N8q, u9, u10, u11, u12⟩, st8⟩ := own_callI X7 hx hZ (y := (⟨"com/example/faden/faden/rank/RecordReader", "<init>", "([B)V"⟩ : MethodName)) (W := 1) (a := b7) (argsL := [(.ref b4)]) (rest := [(.ref b7)]) rfl hown (hw _ (wm 4 rfl)) (hw _ (wm 5 rfl)) (hw _ (wm 3 rfl)) (hw _ (wm 6 rfl)) (by decide) (rm1 l Z a0 hw [] b7 b4 h7 n0 Z7 A7 g_b7 F7_record F7_at) (by decide) (by decide) (by decide) (by decide) e7 (g := (mkF m 96 (Lan2c00_3 p0 p1 p2 p3 b4) [(.ref b4), (.ref b7), (.ref b7)])) rfl (by rw [hml]; rfl) pd_0 rfl rfl (by show 2 * 0 + _ ≤ _; exact Nat.le_of_eq rfl) (hb hby at_96)
  have N8 := Fr.app N6 N8q
  obtain ⟨h8, e8⟩ : ∃ z, T8.heap = z := ⟨_, rfl⟩
  rw [e8] at u9 u10 u11 u12
  have K8 := u9
  have Z8 := Nat.le_trans Z7 K8.1
  refine OwnFin.step (g' := (mkF m 99 (Lan2c00_3 p0 p1 p2 p3 b4) [(.ref b7)])) X8 (fun t k => st8 _ k) ?_
  refine OwnFin.step (g' := (mkF m 101 (Lan2c00_4 p0 p1 p2 p3 b4 b7) [])) X8 (fun t k => XS.astore X8.here hx rfl (hb hby at_99) rfl rfl (l' := (Lan2c00_4 p0 p1 p2 p3 b4 b7)) rfl k) ?_
  refine OwnFin.step (g' := (mkF m 103 (Lan2c00_4 p0 p1 p2 p3 b4 b7) [(.ref b7)])) X8 (fun t k => XS.aload X8.here hx rfl (hb hby at_101) rfl rfl k) ?_
  have A14 := ((B6.keep K7 nin0).keep K8 (ninS ne_b4_b7 nin0))
  obtain ⟨_, T13, L13, X13, ⟨rfl, N13q, u15⟩, st13⟩ := own_callV X8 hx hZ (y := (⟨"com/example/faden/faden/rank/RecordReader", "atEnd", "()Z"⟩ : MethodName)) (W := 0) (a := b7) (argsL := []) (rest := []) hown (hw _ (wm 12 rfl)) (hw _ (wm 13 rfl)) (hw _ (wm 15 rfl)) (hw _ (wm 14 rfl)) (hw _ (wm 3 rfl)) (hw _ (wm 16 rfl)) (by decide) u10 (rm3 l Z a0 hw [] b7 2 (Gn2c00_74 p0 p1) b4 (0 : Int32) h8 n0 Z8 u10 g_b7 u11 u12 A14 (Ne.symm ne_b4_b7)) (by decide) (by decide) (by decide) (by decide) e8 (g := (mkF m 103 (Lan2c00_4 p0 p1 p2 p3 b4 b7) [(.ref b7)])) rfl (by rw [hml]; rfl) pd_1 rfl rfl (by show 2 * 0 + _ ≤ _; exact Nat.le_of_eq rfl) (hb hby at_103)
  have N13 := Fr.app N8 N13q
  obtain ⟨h13, e13⟩ : ∃ z, T13.heap = z := ⟨_, rfl⟩
  rw [e13] at u15
  have K13 := u15
  have Z13 := Nat.le_trans Z8 K13.1
  rw [show (nar .boolean (v3_17 (0 : Int32) 2)) = (0 : Int32) from by decide] at st13
  refine OwnFin.step (g' := (mkF m 106 (Lan2c00_4 p0 p1 p2 p3 b4 b7) [(.int (0 : Int32))])) X13 (fun t k => st13 _ k) ?_
  refine OwnFin.step (g' := (mkF m 108 (Lan2c00_4 p0 p1 p2 p3 b4 b7) [(.int (2 : Int32)), (.int (0 : Int32))])) X13 (fun t k => XS.iload X13.here hx rfl (hb hby at_106) rfl k) ?_
  refine OwnFin.step (g' := (mkF m 115 (Lan2c00_4 p0 p1 p2 p3 b4 b7) [(.int (0 : Int32))])) X13 (fun t k => XS.ifYes X13.here hx rfl (pc0 := 108) (pc' := 115) rfl (hb hby at_108) rfl ((if0 _ _).trans (feq (by decide)).2) (by decide) (by decide) k) ?_
  refine OwnFin.step (g' := (mkF m 116 (Lan2c00_4 p0 p1 p2 p3 b4 b7) [(.int (0 : Int32)), (.int (0 : Int32))])) X13 (fun t k => XS.iconst X13.here hx rfl (hb hby at_115) k) ?_
  refine OwnFin.step (g' := (mkF m 119 (Lan2c00_4 p0 p1 p2 p3 b4 b7) [])) X13 (fun t k => XS.icmpNo X13.here hx rfl (hb hby at_116) rfl (teq (by decide)).2 k) ?_
  refine OwnFin.step (g' := (mkF m 120 (Lan2c00_4 p0 p1 p2 p3 b4 b7) [(.int (1 : Int32))])) X13 (fun t k => XS.iconst X13.here hx rfl (hb hby at_119) k) ?_
  refine OwnFin.step (g' := (mkF m 124 (Lan2c00_4 p0 p1 p2 p3 b4 b7) [(.int (1 : Int32))])) X13 (fun t k => XS.goto X13.here hx rfl (pc0 := 120) (pc' := 124) rfl (hb hby at_120) (by decide) (by decide) k) ?_
  refine OwnFin.step (g' := (mkF m 126 (Lan2c00_5 p0 p1 p2 p3 b4 b7) [])) X13 (fun t k => XS.istore X13.here hx rfl (hb hby at_124) rfl (l' := (Lan2c00_5 p0 p1 p2 p3 b4 b7)) rfl k) ?_
  refine OwnFin.step (g' := (mkF m 127 (Lan2c00_5 p0 p1 p2 p3 b4 b7) [(.int (0 : Int32))])) X13 (fun t k => XS.iconst X13.here hx rfl (hb hby at_126) k) ?_
  refine OwnFin.step (g' := (mkF m 129 (Lan2c00_6 p0 p1 p2 p3 b4 b7) [])) X13 (fun t k => XS.istore X13.here hx rfl (hb hby at_127) rfl (l' := (Lan2c00_6 p0 p1 p2 p3 b4 b7)) rfl k) ?_
  refine OwnFin.step (g' := (mkF m 131 (Lan2c00_6 p0 p1 p2 p3 b4 b7) [(.int (2 : Int32))])) X13 (fun t k => XS.iload X13.here hx rfl (hb hby at_129) rfl k) ?_
  refine OwnFin.step (g' := (mkF m 132 (Lan2c00_6 p0 p1 p2 p3 b4 b7) [(.int (1 : Int32)), (.int (2 : Int32))])) X13 (fun t k => XS.iconst X13.here hx rfl (hb hby at_131) k) ?_
  refine OwnFin.step (g' := (mkF m 135 (Lan2c00_6 p0 p1 p2 p3 b4 b7) [])) X13 (fun t k => XS.icmpNo X13.here hx rfl (hb hby at_132) rfl (flt (by decide)).1 k) ?_
  refine OwnFin.step (g' := (mkF m 137 (Lan2c00_6 p0 p1 p2 p3 b4 b7) [(.ref b7)])) X13 (fun t k => XS.aload X13.here hx rfl (hb hby at_135) rfl rfl k) ?_
  have E17 := (Exa.keep u10 K13)
  have F18 := (u11.keep K13 nin0)
  have F19 := (u12.keep K13 nin0)
  have A20 := (A14.keep K13 nin0)
  obtain ⟨_, T16, L16, X16, ⟨rfl, N16q, u21, u22, u23, u24⟩, st16⟩ := own_callV X13 hx hZ (y := (⟨"com/example/faden/faden/rank/RecordReader", "number", "()I"⟩ : MethodName)) (W := 0) (a := b7) (argsL := []) (rest := []) hown (hw _ (wm 19 rfl)) (hw _ (wm 20 rfl)) (hw _ (wm 22 rfl)) (hw _ (wm 21 rfl)) (hw _ (wm 3 rfl)) (hw _ (wm 23 rfl)) (by decide) E17 (rm4a0k1 l Z a0 hw [] b7 2 (Gn2c00_74 p0 p1) b4 h13 n0 Z13 E17 g_b7 F18 F19 A20 (Ne.symm ne_b4_b7) (exhlnn2c00_137 p3 hn hm) (exhb0n2c00_137 p0 p1 p3 hn hm)) (by decide) (by decide) (by decide) (by decide) e13 (g := (mkF m 137 (Lan2c00_6 p0 p1 p2 p3 b4 b7) [(.ref b7)])) rfl (by rw [hml]; rfl) pd_2 rfl rfl (by show 2 * 0 + _ ≤ _; exact Nat.le_of_eq rfl) (hb hby at_137)
  have N16 := Fr.app N13 N16q
  obtain ⟨h16, e16⟩ : ∃ z, T16.heap = z := ⟨_, rfl⟩
  rw [e16] at u21 u22 u23 u24
  have K16 := u21
  have Z16 := Nat.le_trans Z13 K16.1
  refine OwnFin.step (g' := (mkF m 140 (Lan2c00_6 p0 p1 p2 p3 b4 b7) [(.int (va0k14_77 (Gn2c00_74 p0 p1)))])) X16 (fun t k => st16 _ k) ?_
  refine OwnFin.step (g' := (mkF m 141 (Lan2c00_6 p0 p1 p2 p3 b4 b7) [])) X16 (fun t k => XT.pop X16.here hx rfl (hb hby at_140) rfl rfl k) ?_
  refine OwnFin.step (g' := (mkF m 143 (Lan2c00_6 p0 p1 p2 p3 b4 b7) [(.int (0 : Int32))])) X16 (fun t k => XS.iload X16.here hx rfl (hb hby at_141) rfl k) ?_
  refine OwnFin.step (g' := (mkF m 145 (Lan2c00_6 p0 p1 p2 p3 b4 b7) [(.int (0 : Int32)), (.int (0 : Int32))])) X16 (fun t k => XS.iload X16.here hx rfl (hb hby at_143) rfl k) ?_
  refine OwnFin.step (g' := (mkF m 152 (Lan2c00_6 p0 p1 p2 p3 b4 b7) [(.int (0 : Int32))])) X16 (fun t k => XS.ifYes X16.here hx rfl (pc0 := 145) (pc' := 152) rfl (hb hby at_145) rfl ((if0 _ _).trans (teq (by decide)).1) (by decide) (by decide) k) ?_
  refine OwnFin.step (g' := (mkF m 153 (Lan2c00_6 p0 p1 p2 p3 b4 b7) [(.int (1 : Int32)), (.int (0 : Int32))])) X16 (fun t k => XS.iconst X16.here hx rfl (hb hby at_152) k) ?_
  refine OwnFin.step (g' := (mkF m 154 (Lan2c00_6 p0 p1 p2 p3 b4 b7) [(.int (1 : Int32))])) X16 (fun t k => XS.iadd X16.here hx rfl (hb hby at_153) rfl k) ?_
  refine OwnFin.step (g' := (mkF m 156 (Lan2c00_7 p0 p1 p2 p3 b4 b7) [])) X16 (fun t k => XS.istore X16.here hx rfl (hb hby at_154) rfl (l' := (Lan2c00_7 p0 p1 p2 p3 b4 b7)) rfl k) ?_
  refine OwnFin.step (g' := (mkF m 158 (Lan2c00_7 p0 p1 p2 p3 b4 b7) [(.int (1 : Int32))])) X16 (fun t k => XS.iload X16.here hx rfl (hb hby at_156) rfl k) ?_
  refine OwnFin.step (g' := (mkF m 161 (Lan2c00_7 p0 p1 p2 p3 b4 b7) [])) X16 (fun t k => XS.ifNo X16.here hx rfl (hb hby at_158) rfl ((if0 _ _).trans (feq (by decide)).1) k) ?_
  refine OwnFin.step (g' := (mkF m 163 (Lan2c00_7 p0 p1 p2 p3 b4 b7) [(.ref b7)])) X16 (fun t k => XS.aload X16.here hx rfl (hb hby at_161) rfl rfl k) ?_
  have A26 := (A20.keep K16 (ninS ne_b4_b7 nin0))
  obtain ⟨_, T25, L25, X25, ⟨rfl, N25q, u27⟩, st25⟩ := own_callV X16 hx hZ (y := (⟨"com/example/faden/faden/rank/RecordReader", "atEnd", "()Z"⟩ : MethodName)) (W := 0) (a := b7) (argsL := []) (rest := []) hown (hw _ (wm 12 rfl)) (hw _ (wm 13 rfl)) (hw _ (wm 15 rfl)) (hw _ (wm 14 rfl)) (hw _ (wm 3 rfl)) (hw _ (wm 16 rfl)) (by decide) u22 (rm3 l Z a0 hw [] b7 2 (Gn2c00_74 p0 p1) b4 (1 : Int32) h16 n0 Z16 u22 g_b7 u23 u24 A26 (Ne.symm ne_b4_b7)) (by decide) (by decide) (by decide) (by decide) e16 (g := (mkF m 163 (Lan2c00_7 p0 p1 p2 p3 b4 b7) [(.ref b7)])) rfl (by rw [hml]; rfl) pd_1 rfl rfl (by show 2 * 0 + _ ≤ _; exact Nat.le_of_eq rfl) (hb hby at_163)
  have N25 := Fr.app N16 N25q
  obtain ⟨h25, e25⟩ : ∃ z, T25.heap = z := ⟨_, rfl⟩
  rw [e25] at u27
  have K25 := u27
  have Z25 := Nat.le_trans Z16 K25.1
  rw [show (nar .boolean (v3_17 (1 : Int32) 2)) = (0 : Int32) from by decide] at st25
  refine OwnFin.step (g' := (mkF m 166 (Lan2c00_7 p0 p1 p2 p3 b4 b7) [(.int (0 : Int32))])) X25 (fun t k => st25 _ k) ?_
  refine OwnFin.step (g' := (mkF m 168 (Lan2c00_7 p0 p1 p2 p3 b4 b7) [(.int (1 : Int32)), (.int (0 : Int32))])) X25 (fun t k => XS.iload X25.here hx rfl (hb hby at_166) rfl k) ?_
  refine OwnFin.step (g' := (mkF m 170 (Lan2c00_7 p0 p1 p2 p3 b4 b7) [(.int (2 : Int32)), (.int (1 : Int32)), (.int (0 : Int32))])) X25 (fun t k => XS.iload X25.here hx rfl (hb hby at_168) rfl k) ?_
  refine OwnFin.step (g' := (mkF m 177 (Lan2c00_7 p0 p1 p2 p3 b4 b7) [(.int (0 : Int32))])) X25 (fun t k => XS.icmpYes X25.here hx rfl (pc0 := 170) (pc' := 177) rfl (hb hby at_170) rfl (feq (by decide)).2 (by decide) (by decide) k) ?_
  refine OwnFin.step (g' := (mkF m 178 (Lan2c00_7 p0 p1 p2 p3 b4 b7) [(.int (0 : Int32)), (.int (0 : Int32))])) X25 (fun t k => XS.iconst X25.here hx rfl (hb hby at_177) k) ?_
  refine OwnFin.step (g' := (mkF m 181 (Lan2c00_7 p0 p1 p2 p3 b4 b7) [])) X25 (fun t k => XS.icmpNo X25.here hx rfl (hb hby at_178) rfl (teq (by decide)).2 k) ?_
  refine OwnFin.step (g' := (mkF m 182 (Lan2c00_7 p0 p1 p2 p3 b4 b7) [(.int (1 : Int32))])) X25 (fun t k => XS.iconst X25.here hx rfl (hb hby at_181) k) ?_
  refine OwnFin.step (g' := (mkF m 186 (Lan2c00_7 p0 p1 p2 p3 b4 b7) [(.int (1 : Int32))])) X25 (fun t k => XS.goto X25.here hx rfl (pc0 := 182) (pc' := 186) rfl (hb hby at_182) (by decide) (by decide) k) ?_
  refine OwnFin.step (g' := (mkF m 188 (Lan2c00_7 p0 p1 p2 p3 b4 b7) [])) X25 (fun t k => XS.istore X25.here hx rfl (hb hby at_186) rfl (l' := (Lan2c00_7 p0 p1 p2 p3 b4 b7)) rfl k) ?_
  refine OwnFin.step (g' := (mkF m 190 (Lan2c00_7 p0 p1 p2 p3 b4 b7) [(.int (1 : Int32))])) X25 (fun t k => XS.iload X25.here hx rfl (hb hby at_188) rfl k) ?_
  refine OwnFin.step (g' := (mkF m 192 (Lan2c00_7 p0 p1 p2 p3 b4 b7) [(.int (2 : Int32)), (.int (1 : Int32))])) X25 (fun t k => XS.iload X25.here hx rfl (hb hby at_190) rfl k) ?_
  refine OwnFin.step (g' := (mkF m 195 (Lan2c00_7 p0 p1 p2 p3 b4 b7) [])) X25 (fun t k => XS.icmpNo X25.here hx rfl (hb hby at_192) rfl (tlt (by decide)).2.1 k) ?_
  refine OwnFin.step (g' := (mkF m 197 (Lan2c00_7 p0 p1 p2 p3 b4 b7) [(.ref b7)])) X25 (fun t k => XS.aload X25.here hx rfl (hb hby at_195) rfl rfl k) ?_
  have E29 := (Exa.keep u22 K25)
  have F30 := (u23.keep K25 nin0)
  have F31 := (u24.keep K25 nin0)
  have A32 := (A26.keep K25 nin0)
  obtain ⟨_, T28, L28, X28, ⟨rfl, N28q, u33, u34, u35, u36⟩, st28⟩ := own_callV X25 hx hZ (y := (⟨"com/example/faden/faden/rank/RecordReader", "number", "()I"⟩ : MethodName)) (W := 0) (a := b7) (argsL := []) (rest := []) hown (hw _ (wm 19 rfl)) (hw _ (wm 20 rfl)) (hw _ (wm 22 rfl)) (hw _ (wm 21 rfl)) (hw _ (wm 3 rfl)) (hw _ (wm 23 rfl)) (by decide) E29 (rm4a1k1 l Z a0 hw [] b7 2 (Gn2c00_74 p0 p1) b4 h25 n0 Z25 E29 g_b7 F30 F31 A32 (Ne.symm ne_b4_b7) (exhlnn2c00_197 p3 hn hm) (exhb0n2c00_197 p0 p1 p3 hn hm)) (by decide) (by decide) (by decide) (by decide) e25 (g := (mkF m 197 (Lan2c00_7 p0 p1 p2 p3 b4 b7) [(.ref b7)])) rfl (by rw [hml]; rfl) pd_2 rfl rfl (by show 2 * 0 + _ ≤ _; exact Nat.le_of_eq rfl) (hb hby at_197)
  have N28 := Fr.app N25 N28q
  obtain ⟨h28, e28⟩ : ∃ z, T28.heap = z := ⟨_, rfl⟩
  rw [e28] at u33 u34 u35 u36
  have K28 := u33
  have Z28 := Nat.le_trans Z25 K28.1
  refine OwnFin.step (g' := (mkF m 200 (Lan2c00_7 p0 p1 p2 p3 b4 b7) [(.int (va1k14_77 (Gn2c00_74 p0 p1)))])) X28 (fun t k => st28 _ k) ?_
  refine OwnFin.step (g' := (mkF m 201 (Lan2c00_7 p0 p1 p2 p3 b4 b7) [])) X28 (fun t k => XT.pop X28.here hx rfl (hb hby at_200) rfl rfl k) ?_
  refine OwnFin.step (g' := (mkF m 203 (Lan2c00_7 p0 p1 p2 p3 b4 b7) [(.int (1 : Int32))])) X28 (fun t k => XS.iload X28.here hx rfl (hb hby at_201) rfl k) ?_
  refine OwnFin.step (g' := (mkF m 204 (Lan2c00_7 p0 p1 p2 p3 b4 b7) [(.int (1 : Int32)), (.int (1 : Int32))])) X28 (fun t k => XS.iconst X28.here hx rfl (hb hby at_203) k) ?_
  refine OwnFin.step (g' := (mkF m 205 (Lan2c00_7 p0 p1 p2 p3 b4 b7) [(.int (2 : Int32))])) X28 (fun t k => XS.iadd X28.here hx rfl (hb hby at_204) rfl k) ?_
  refine OwnFin.step (g' := (mkF m 207 (Lan2c00_8 p0 p1 p2 p3 b4 b7) [])) X28 (fun t k => XS.istore X28.here hx rfl (hb hby at_205) rfl (l' := (Lan2c00_8 p0 p1 p2 p3 b4 b7)) rfl k) ?_
  refine OwnFin.step (g' := (mkF m 209 (Lan2c00_8 p0 p1 p2 p3 b4 b7) [(.int (1 : Int32))])) X28 (fun t k => XS.iload X28.here hx rfl (hb hby at_207) rfl k) ?_
  refine OwnFin.step (g' := (mkF m 212 (Lan2c00_8 p0 p1 p2 p3 b4 b7) [])) X28 (fun t k => XS.ifNo X28.here hx rfl (hb hby at_209) rfl ((if0 _ _).trans (feq (by decide)).1) k) ?_
  refine OwnFin.step (g' := (mkF m 214 (Lan2c00_8 p0 p1 p2 p3 b4 b7) [(.ref b7)])) X28 (fun t k => XS.aload X28.here hx rfl (hb hby at_212) rfl rfl k) ?_
  have A38 := (A32.keep K28 (ninS ne_b4_b7 nin0))
  obtain ⟨_, T37, L37, X37, ⟨rfl, N37q, u39⟩, st37⟩ := own_callV X28 hx hZ (y := (⟨"com/example/faden/faden/rank/RecordReader", "atEnd", "()Z"⟩ : MethodName)) (W := 0) (a := b7) (argsL := []) (rest := []) hown (hw _ (wm 12 rfl)) (hw _ (wm 13 rfl)) (hw _ (wm 15 rfl)) (hw _ (wm 14 rfl)) (hw _ (wm 3 rfl)) (hw _ (wm 16 rfl)) (by decide) u34 (rm3 l Z a0 hw [] b7 2 (Gn2c00_74 p0 p1) b4 (2 : Int32) h28 n0 Z28 u34 g_b7 u35 u36 A38 (Ne.symm ne_b4_b7)) (by decide) (by decide) (by decide) (by decide) e28 (g := (mkF m 214 (Lan2c00_8 p0 p1 p2 p3 b4 b7) [(.ref b7)])) rfl (by rw [hml]; rfl) pd_1 rfl rfl (by show 2 * 0 + _ ≤ _; exact Nat.le_of_eq rfl) (hb hby at_214)
  have N37 := Fr.app N28 N37q
  obtain ⟨h37, e37⟩ : ∃ z, T37.heap = z := ⟨_, rfl⟩
  rw [e37] at u39
  have K37 := u39
  have Z37 := Nat.le_trans Z28 K37.1
  rw [show (nar .boolean (v3_17 (2 : Int32) 2)) = (1 : Int32) from by decide] at st37
  refine OwnFin.step (g' := (mkF m 217 (Lan2c00_8 p0 p1 p2 p3 b4 b7) [(.int (1 : Int32))])) X37 (fun t k => st37 _ k) ?_
  refine OwnFin.step (g' := (mkF m 219 (Lan2c00_8 p0 p1 p2 p3 b4 b7) [(.int (2 : Int32)), (.int (1 : Int32))])) X37 (fun t k => XS.iload X37.here hx rfl (hb hby at_217) rfl k) ?_
  refine OwnFin.step (g' := (mkF m 221 (Lan2c00_8 p0 p1 p2 p3 b4 b7) [(.int (2 : Int32)), (.int (2 : Int32)), (.int (1 : Int32))])) X37 (fun t k => XS.iload X37.here hx rfl (hb hby at_219) rfl k) ?_
  refine OwnFin.step (g' := (mkF m 224 (Lan2c00_8 p0 p1 p2 p3 b4 b7) [(.int (1 : Int32))])) X37 (fun t k => XS.icmpNo X37.here hx rfl (hb hby at_221) rfl (teq (by decide)).2 k) ?_
  refine OwnFin.step (g' := (mkF m 225 (Lan2c00_8 p0 p1 p2 p3 b4 b7) [(.int (1 : Int32)), (.int (1 : Int32))])) X37 (fun t k => XS.iconst X37.here hx rfl (hb hby at_224) k) ?_
  refine OwnFin.step (g' := (mkF m 229 (Lan2c00_8 p0 p1 p2 p3 b4 b7) [(.int (1 : Int32)), (.int (1 : Int32))])) X37 (fun t k => XS.goto X37.here hx rfl (pc0 := 225) (pc' := 229) rfl (hb hby at_225) (by decide) (by decide) k) ?_
  refine OwnFin.step (g' := (mkF m 232 (Lan2c00_8 p0 p1 p2 p3 b4 b7) [])) X37 (fun t k => XS.icmpNo X37.here hx rfl (hb hby at_229) rfl (teq (by decide)).2 k) ?_
  refine OwnFin.step (g' := (mkF m 233 (Lan2c00_8 p0 p1 p2 p3 b4 b7) [(.int (1 : Int32))])) X37 (fun t k => XS.iconst X37.here hx rfl (hb hby at_232) k) ?_
  refine OwnFin.step (g' := (mkF m 237 (Lan2c00_8 p0 p1 p2 p3 b4 b7) [(.int (1 : Int32))])) X37 (fun t k => XS.goto X37.here hx rfl (pc0 := 233) (pc' := 237) rfl (hb hby at_233) (by decide) (by decide) k) ?_
  refine OwnFin.step (g' := (mkF m 239 (Lan2c00_8 p0 p1 p2 p3 b4 b7) [])) X37 (fun t k => XS.istore X37.here hx rfl (hb hby at_237) rfl (l' := (Lan2c00_8 p0 p1 p2 p3 b4 b7)) rfl k) ?_
  refine OwnFin.step (g' := (mkF m 241 (Lan2c00_8 p0 p1 p2 p3 b4 b7) [(.int (2 : Int32))])) X37 (fun t k => XS.iload X37.here hx rfl (hb hby at_239) rfl k) ?_
  refine OwnFin.step (g' := (mkF m 243 (Lan2c00_8 p0 p1 p2 p3 b4 b7) [(.int (2 : Int32)), (.int (2 : Int32))])) X37 (fun t k => XS.iload X37.here hx rfl (hb hby at_241) rfl k) ?_
  refine OwnFin.step (g' := (mkF m 290 (Lan2c00_8 p0 p1 p2 p3 b4 b7) [])) X37 (fun t k => XS.icmpYes X37.here hx rfl (pc0 := 243) (pc' := 290) rfl (hb hby at_243) rfl (flt (by decide)).2.1 (by decide) (by decide) k) ?_
  refine OwnFin.step (g' := (mkF m 292 (Lan2c00_8 p0 p1 p2 p3 b4 b7) [(.int (1 : Int32))])) X37 (fun t k => XS.iload X37.here hx rfl (hb hby at_290) rfl k) ?_
  refine OwnFin.step (g' := (mkF m 295 (Lan2c00_8 p0 p1 p2 p3 b4 b7) [])) X37 (fun t k => XS.ifNo X37.here hx rfl (hb hby at_292) rfl ((if0 _ _).trans (feq (by decide)).1) k) ?_
  refine OwnFin.step (g' := (mkF m 297 (Lan2c00_8 p0 p1 p2 p3 b4 b7) [(.ref b7)])) X37 (fun t k => XS.aload X37.here hx rfl (hb hby at_295) rfl rfl k) ?_
  have E41 := (Exa.keep u34 K37)
  have F42 := (u35.keep K37 nin0)
  have F43 := (u36.keep K37 nin0)
  have A44 := (A38.keep K37 nin0)
  obtain ⟨_, T40, L40, X40, ⟨rfl, N40q, u45⟩, st40⟩ := own_callV X37 hx hZ (y := (⟨"com/example/faden/faden/rank/RecordReader", "atEnd", "()Z"⟩ : MethodName)) (W := 0) (a := b7) (argsL := []) (rest := []) hown (hw _ (wm 12 rfl)) (hw _ (wm 13 rfl)) (hw _ (wm 15 rfl)) (hw _ (wm 14 rfl)) (hw _ (wm 3 rfl)) (hw _ (wm 16 rfl)) (by decide) E41 (rm3 l Z a0 hw [] b7 2 (Gn2c00_74 p0 p1) b4 (2 : Int32) h37 n0 Z37 E41 g_b7 F42 F43 A44 (Ne.symm ne_b4_b7)) (by decide) (by decide) (by decide) (by decide) e37 (g := (mkF m 297 (Lan2c00_8 p0 p1 p2 p3 b4 b7) [(.ref b7)])) rfl (by rw [hml]; rfl) pd_1 rfl rfl (by show 2 * 0 + _ ≤ _; exact Nat.le_of_eq rfl) (hb hby at_297)
  have N40 := Fr.app N37 N40q
  obtain ⟨h40, e40⟩ : ∃ z, T40.heap = z := ⟨_, rfl⟩
  rw [e40] at u45
  have K40 := u45
  have Z40 := Nat.le_trans Z37 K40.1
  rw [show (nar .boolean (v3_17 (2 : Int32) 2)) = (1 : Int32) from by decide] at st40
  refine OwnFin.step (g' := (mkF m 300 (Lan2c00_8 p0 p1 p2 p3 b4 b7) [(.int (1 : Int32))])) X40 (fun t k => st40 _ k) ?_
  refine OwnFin.step (g' := (mkF m 303 (Lan2c00_8 p0 p1 p2 p3 b4 b7) [])) X40 (fun t k => XS.ifNo X40.here hx rfl (hb hby at_300) rfl ((if0 _ _).trans (feq (by decide)).1) k) ?_
  refine OwnFin.step (g' := (mkF m 304 (Lan2c00_8 p0 p1 p2 p3 b4 b7) [(.int (1 : Int32))])) X40 (fun t k => XS.iconst X40.here hx rfl (hb hby at_303) k) ?_
  refine OwnFin.step (g' := (mkF m 308 (Lan2c00_8 p0 p1 p2 p3 b4 b7) [(.int (1 : Int32))])) X40 (fun t k => XS.goto X40.here hx rfl (pc0 := 304) (pc' := 308) rfl (hb hby at_304) (by decide) (by decide) k) ?_
  refine OwnFin.step (g' := (mkF m 310 (Lan2c00_8 p0 p1 p2 p3 b4 b7) [])) X40 (fun t k => XS.istore X40.here hx rfl (hb hby at_308) rfl (l' := (Lan2c00_8 p0 p1 p2 p3 b4 b7)) rfl k) ?_
  refine OwnFin.step (g' := (mkF m 312 (Lan2c00_8 p0 p1 p2 p3 b4 b7) [(.int (1 : Int32))])) X40 (fun t k => XS.iload X40.here hx rfl (hb hby at_310) rfl k) ?_
  refine OwnFin.retNar X40 (by simp) (hb hby at_312) (by decide) (by decide) ?_
  exact ⟨rfl, N40⟩
set_option maxRecDepth 65536 in
set_option maxHeartbeats 40000000 in
theorem rm0n2c0 (l : Launch) (Z : State) (a0 : Array Value) (hw : ∀ d ∈ tables_1, d.before a0 Z = true) (ws : List Jvm.Cond) (p0 : Int32) (p1 : Int32) (p2 : Int32) (p3 : Int32) (h0 : Heap) (n0 : Nat) (Z0 : n0 ≤ h0.size) (hn : vn2c00_3 p3 = (2 : Int32)) (hm : vn2c00_22 p3 = (0 : Int32)) :
    MetFree l x (head1 (Jvm.Cond.code x code maxLocals ret :: ws) room_1) (fun a U => a = #[(.int p0), (.int p1), (.int p2), (.int p3)] ∧ Z.Warmed39 U.vm ∧ U.heap = h0) (fun _ _ _ _ _ => True) (fun _ U o U' => ∃ v L, o = .returned v ∧ (LQ n0) v U'.heap L ∧ FrameEnd U o U' L room_1.cells room_1.slots) :=
  own_met (ret := ret) (Q := (LQ n0)) (plainFor_of_name pn_0) (fun m => ef_0 m p0 p1 p2 p3) (fun p e s m below meth c s₁ X hx hby hml hown hnm hZ e0 => j0n2c0 X hx hZ hw hby hml hown hnm e0 (Fr.nil n0) Z0 p0 p1 p2 p3 hn hm)
def vn2c10_3 (p3 : Int32) : Int32 := (p3 &&& (3 : Int32))
def vn2c10_22 (p3 : Int32) : Int32 := (if (p3 &&& (4 : Int32)) = (0 : Int32) then (0 : Int32) else (1 : Int32))
def Gn2c10_59 (p0 : Int32) : Nat → Int32 := (updN (fun _ => (0 : Int32)) ((0 : Int32)).toNatClampNeg (nar .byte (((128 : Int32) ||| (p0 &&& (127 : Int32))).toInt8.toInt32)))
def Gn2c10_74 (p0 : Int32) (p1 : Int32) : Nat → Int32 := (updN (Gn2c10_59 p0) ((1 : Int32)).toNatClampNeg (nar .byte ((p1 &&& (127 : Int32)).toInt8.toInt32)))
theorem exhlnn2c10_137 (p3 : Int32) (hn : vn2c10_3 p3 = (2 : Int32)) (hm : vn2c10_22 p3 = (1 : Int32)) : 2 ≤ 2 ∧ 2 < 100 := by decide
theorem exhb0n2c10_137 (p0 : Int32) (p1 : Int32) (p3 : Int32) (hn : vn2c10_3 p3 = (2 : Int32)) (hm : vn2c10_22 p3 = (1 : Int32)) : 128 ≤ (((Gn2c10_74 p0 p1) 0) &&& 255).toInt := by
  have b := own_b127 p0
  have h : (((Gn2c10_74 p0 p1) 0) &&& 255).toInt = (p0 &&& 127).toInt + 128 := own_hi' b
  omega
theorem exhb1n2c10_137 (p0 : Int32) (p1 : Int32) (p3 : Int32) (hn : vn2c10_3 p3 = (2 : Int32)) (hm : vn2c10_22 p3 = (1 : Int32)) : (((Gn2c10_74 p0 p1) 1) &&& 255).toInt < 128 := by
  have b := own_b127 p1
  have h : (((Gn2c10_74 p0 p1) 1) &&& 255).toInt = (p1 &&& 127).toInt := own_lo b
  omega
abbrev Lan2c10_0 (p0 : Int32) (p1 : Int32) (p2 : Int32) (p3 : Int32) : Array Slot := #[.val (.int p0), .val (.int p1), .val (.int p2), .val (.int p3), .unset, .unset, .unset, .unset, .unset, .unset]
abbrev Lan2c10_1 (p0 : Int32) (p1 : Int32) (p2 : Int32) (p3 : Int32) : Array Slot := #[.val (.int p0), .val (.int p1), .val (.int p2), .val (.int p3), .val (.int (2 : Int32)), .unset, .unset, .unset, .unset, .unset]
abbrev Lan2c10_2 (p0 : Int32) (p1 : Int32) (p2 : Int32) (p3 : Int32) : Array Slot := #[.val (.int p0), .val (.int p1), .val (.int p2), .val (.int p3), .val (.int (2 : Int32)), .val (.int (1 : Int32)), .unset, .unset, .unset, .unset]
abbrev Lan2c10_3 (p0 : Int32) (p1 : Int32) (p2 : Int32) (p3 : Int32) (b4 : Addr) : Array Slot := #[.val (.int p0), .val (.int p1), .val (.int p2), .val (.int p3), .val (.int (2 : Int32)), .val (.int (1 : Int32)), .val (.ref b4), .unset, .unset, .unset]
abbrev Lan2c10_4 (p0 : Int32) (p1 : Int32) (p2 : Int32) (p3 : Int32) (b4 : Addr) (b7 : Addr) : Array Slot := #[.val (.int p0), .val (.int p1), .val (.int p2), .val (.int p3), .val (.int (2 : Int32)), .val (.int (1 : Int32)), .val (.ref b4), .val (.ref b7), .unset, .unset]
abbrev Lan2c10_5 (p0 : Int32) (p1 : Int32) (p2 : Int32) (p3 : Int32) (b4 : Addr) (b7 : Addr) : Array Slot := #[.val (.int p0), .val (.int p1), .val (.int p2), .val (.int p3), .val (.int (2 : Int32)), .val (.int (1 : Int32)), .val (.ref b4), .val (.ref b7), .val (.int (1 : Int32)), .unset]
abbrev Lan2c10_6 (p0 : Int32) (p1 : Int32) (p2 : Int32) (p3 : Int32) (b4 : Addr) (b7 : Addr) : Array Slot := #[.val (.int p0), .val (.int p1), .val (.int p2), .val (.int p3), .val (.int (2 : Int32)), .val (.int (1 : Int32)), .val (.ref b4), .val (.ref b7), .val (.int (1 : Int32)), .val (.int (0 : Int32))]
abbrev Lan2c10_7 (p0 : Int32) (p1 : Int32) (p2 : Int32) (p3 : Int32) (b4 : Addr) (b7 : Addr) : Array Slot := #[.val (.int p0), .val (.int p1), .val (.int p2), .val (.int p3), .val (.int (2 : Int32)), .val (.int (1 : Int32)), .val (.ref b4), .val (.ref b7), .val (.int (1 : Int32)), .val (.int (2 : Int32))]
set_option maxRecDepth 65536 in
set_option maxHeartbeats 40000000 in
theorem j0n2c1 {p : Program} {l : Launch} {e : Env} {s : State} {m : MethodId} {args : Array Value} {below : List Frame} {meth : Method} {c : Code} {T0 : State} {locs : List Loc} {Z : State} {a0 : Array Value} {h0 : Heap} {n0 : Nat}
    (X0 : Stand p l e room_1 s m args below meth c T0 locs 0 0) (hx : p.tables.exec = Jvm.exec) (hZ : Z.Warmed39 s.vm) (hw : ∀ d ∈ tables_1, d.before a0 Z = true) (hby : c.code = code) (hml : c.maxLocals = 10) (hown : s.vm.findClass "com/example/faden/faden/rank/RecordReaderAtEndPinLaw" = some m.cls) (hnm : meth.name = "law") (e0 : T0.heap = h0) (N0 : Fr n0 locs) (Z0 : n0 ≤ h0.size) (p0 : Int32) (p1 : Int32) (p2 : Int32) (p3 : Int32) (hn : vn2c10_3 p3 = (2 : Int32)) (hm : vn2c10_22 p3 = (1 : Int32)) :
    OwnFin X0 (some .boolean) (LQ n0) room_1.cells room_1.slots (mkF m 0 #[.val (.int p0), .val (.int p1), .val (.int p2), .val (.int p3), .unset, .unset, .unset, .unset, .unset, .unset] []) := by
  refine OwnFin.step (g' := (mkF m 1 (Lan2c10_0 p0 p1 p2 p3) [(.int p3)])) X0 (fun t k => XS.iloadN X0.here hx rfl (hb hby at_0) rfl k) ?_
  refine OwnFin.step (g' := (mkF m 2 (Lan2c10_0 p0 p1 p2 p3) [(.int (3 : Int32)), (.int p3)])) X0 (fun t k => XS.iconst X0.here hx rfl (hb hby at_1) k) ?_
  refine OwnFin.step (g' := (mkF m 3 (Lan2c10_0 p0 p1 p2 p3) [(.int (p3 &&& (3 : Int32)))])) X0 (fun t k => XS.iand X0.here hx rfl (hb hby at_2) rfl k) ?_
  refine OwnFin.step (g' := (mkF m 5 #[.val (.int p0), .val (.int p1), .val (.int p2), .val (.int p3), .val (.int (vn2c10_3 p3)), .unset, .unset, .unset, .unset, .unset] [])) X0 (fun t k => XS.istore X0.here hx rfl (hb hby at_3) rfl (l' := #[.val (.int p0), .val (.int p1), .val (.int p2), .val (.int p3), .val (.int (vn2c10_3 p3)), .unset, .unset, .unset, .unset, .unset]) rfl k) ?_
  rw [hn]
  refine OwnFin.step (g' := (mkF m 6 (Lan2c10_1 p0 p1 p2 p3) [(.int p3)])) X0 (fun t k => XS.iloadN X0.here hx rfl (hb hby at_5) rfl k) ?_
  refine OwnFin.step (g' := (mkF m 7 (Lan2c10_1 p0 p1 p2 p3) [(.int (4 : Int32)), (.int p3)])) X0 (fun t k => XS.iconst X0.here hx rfl (hb hby at_6) k) ?_
  refine OwnFin.step (g' := (mkF m 8 (Lan2c10_1 p0 p1 p2 p3) [(.int (p3 &&& (4 : Int32)))])) X0 (fun t k => XS.iand X0.here hx rfl (hb hby at_7) rfl k) ?_
  refine OwnFin.step (g' := (mkF m 22 #[.val (.int p0), .val (.int p1), .val (.int p2), .val (.int p3), .val (.int (2 : Int32)), .unset, .unset, .unset, .unset, .unset] [(.int (vn2c10_22 p3))])) X0 (fun t k => ?_) ?_
  · show Steps p.tables e below (T0.setTop (mkF m 8 (Lan2c10_1 p0 p1 p2 p3) [(.int (p3 &&& (4 : Int32)))])) t
    by_cases hc1 : (p3 &&& (4 : Int32)) = (0 : Int32)
    · skip
      refine XS.ifYes X0.here hx rfl (pc0 := 8) (pc' := 21) rfl (hb hby at_8) rfl ((if0 _ _).trans (teq hc1).1) (by decide) (by decide) ?_
      show Steps p.tables e below (T0.setTop (mkF m 21 (Lan2c10_1 p0 p1 p2 p3) [])) t
      refine XS.iconst X0.here hx rfl (hb hby at_21) ?_
      show Steps p.tables e below (T0.setTop (mkF m 22 (Lan2c10_1 p0 p1 p2 p3) [(.int (0 : Int32))])) t
      have q2 : (vn2c10_22 p3) = (0 : Int32) := by
        show (if (p3 &&& (4 : Int32)) = (0 : Int32) then (0 : Int32) else (1 : Int32)) = (0 : Int32)
        simp only [if_pos hc1]
      rw [q2] at k
      exact k
    · skip
      refine XS.ifNo X0.here hx rfl (hb hby at_8) rfl ((if0 _ _).trans (feq hc1).1) ?_
      show Steps p.tables e below (T0.setTop (mkF m 11 (Lan2c10_1 p0 p1 p2 p3) [])) t
      refine XS.iload X0.here hx rfl (hb hby at_11) rfl ?_
      show Steps p.tables e below (T0.setTop (mkF m 13 (Lan2c10_1 p0 p1 p2 p3) [(.int (2 : Int32))])) t
      refine XS.iconst X0.here hx rfl (hb hby at_13) ?_
      show Steps p.tables e below (T0.setTop (mkF m 14 (Lan2c10_1 p0 p1 p2 p3) [(.int (2 : Int32)), (.int (2 : Int32))])) t
      refine XS.icmpNo X0.here hx rfl (hb hby at_14) rfl (flt (by decide)).1 ?_
      show Steps p.tables e below (T0.setTop (mkF m 17 (Lan2c10_1 p0 p1 p2 p3) [])) t
      refine XS.iconst X0.here hx rfl (hb hby at_17) ?_
      show Steps p.tables e below (T0.setTop (mkF m 18 (Lan2c10_1 p0 p1 p2 p3) [(.int (1 : Int32))])) t
      refine XS.goto X0.here hx rfl (pc0 := 18) (pc' := 22) rfl (hb hby at_18) (by decide) (by decide) ?_
      show Steps p.tables e below (T0.setTop (mkF m 22 (Lan2c10_1 p0 p1 p2 p3) [(.int (1 : Int32))])) t
      have q3 : (vn2c10_22 p3) = (1 : Int32) := by
        show (if (p3 &&& (4 : Int32)) = (0 : Int32) then (0 : Int32) else (1 : Int32)) = (1 : Int32)
        simp only [if_neg hc1]
      rw [q3] at k
      exact k
  refine OwnFin.step (g' := (mkF m 24 #[.val (.int p0), .val (.int p1), .val (.int p2), .val (.int p3), .val (.int (2 : Int32)), .val (.int (vn2c10_22 p3)), .unset, .unset, .unset, .unset] [])) X0 (fun t k => XS.istore X0.here hx rfl (hb hby at_22) rfl (l' := #[.val (.int p0), .val (.int p1), .val (.int p2), .val (.int p3), .val (.int (2 : Int32)), .val (.int (vn2c10_22 p3)), .unset, .unset, .unset, .unset]) rfl k) ?_
  rw [hm]
  refine OwnFin.step (g' := (mkF m 26 (Lan2c10_2 p0 p1 p2 p3) [(.int (2 : Int32))])) X0 (fun t k => XS.iload X0.here hx rfl (hb hby at_24) rfl k) ?_
  obtain ⟨T4, h4, b4, X4, e4, y4, K4, A4, st4⟩ := own_new X0 hx hZ (hw _ (wm 0 rfl)) e0 (g := (mkF m 26 (Lan2c10_2 p0 p1 p2 p3) [(.int (2 : Int32))])) rfl (hb hby at_26) rfl (by decide) (cap := 2) (by decide) (by decide) (by decide) (by decide)
  have B4 : Ary Z h4 b4 .byte 2 (fun i => .int ((fun _ => (0 : Int32)) i)) := A4
  have g_b4 : n0 ≤ b4 := by rw [y4]; exact Z0
  have Z4 := Nat.le_trans Z0 K4.1
  refine OwnFin.step (g' := (mkF m 28 (Lan2c10_2 p0 p1 p2 p3) [(.ref b4)])) X4 (fun t k => st4 _ k) ?_
  refine OwnFin.step (g' := (mkF m 30 (Lan2c10_3 p0 p1 p2 p3 b4) [])) X4 (fun t k => XS.astore X4.here hx rfl (hb hby at_28) rfl rfl (l' := (Lan2c10_3 p0 p1 p2 p3 b4)) rfl k) ?_
  refine OwnFin.step (g' := (mkF m 32 (Lan2c10_3 p0 p1 p2 p3 b4) [(.int (2 : Int32))])) X4 (fun t k => XS.iload X4.here hx rfl (hb hby at_30) rfl k) ?_
  refine OwnFin.step (g' := (mkF m 35 (Lan2c10_3 p0 p1 p2 p3 b4) [])) X4 (fun t k => XS.ifNo X4.here hx rfl (hb hby at_32) rfl ((if0 _ _).trans (tlt (by decide)).2.2.2) k) ?_
  refine OwnFin.step (g' := (mkF m 37 (Lan2c10_3 p0 p1 p2 p3 b4) [(.ref b4)])) X4 (fun t k => XS.aload X4.here hx rfl (hb hby at_35) rfl rfl k) ?_
  refine OwnFin.step (g' := (mkF m 38 (Lan2c10_3 p0 p1 p2 p3 b4) [(.int (0 : Int32)), (.ref b4)])) X4 (fun t k => XS.iconst X4.here hx rfl (hb hby at_37) k) ?_
  refine OwnFin.step (g' := (mkF m 40 (Lan2c10_3 p0 p1 p2 p3 b4) [(.int (1 : Int32)), (.int (0 : Int32)), (.ref b4)])) X4 (fun t k => XS.iload X4.here hx rfl (hb hby at_38) rfl k) ?_
  refine OwnFin.step (g' := (mkF m 43 (Lan2c10_3 p0 p1 p2 p3 b4) [(.int (0 : Int32)), (.ref b4)])) X4 (fun t k => XS.ifNo X4.here hx rfl (hb hby at_40) rfl ((if0 _ _).trans (feq (by decide)).1) k) ?_
  refine OwnFin.step (g' := (mkF m 46 (Lan2c10_3 p0 p1 p2 p3 b4) [(.int (128 : Int32)), (.int (0 : Int32)), (.ref b4)])) X4 (fun t k => XS.sipush X4.here hx rfl (hb hby at_43) k) ?_
  refine OwnFin.step (g' := (mkF m 47 (Lan2c10_3 p0 p1 p2 p3 b4) [(.int p0), (.int (128 : Int32)), (.int (0 : Int32)), (.ref b4)])) X4 (fun t k => XS.iloadN X4.here hx rfl (hb hby at_46) rfl k) ?_
  refine OwnFin.step (g' := (mkF m 49 (Lan2c10_3 p0 p1 p2 p3 b4) [(.int (127 : Int32)), (.int p0), (.int (128 : Int32)), (.int (0 : Int32)), (.ref b4)])) X4 (fun t k => XS.bipush X4.here hx rfl (hb hby at_47) k) ?_
  refine OwnFin.step (g' := (mkF m 50 (Lan2c10_3 p0 p1 p2 p3 b4) [(.int (p0 &&& (127 : Int32))), (.int (128 : Int32)), (.int (0 : Int32)), (.ref b4)])) X4 (fun t k => XS.iand X4.here hx rfl (hb hby at_49) rfl k) ?_
  refine OwnFin.step (g' := (mkF m 51 (Lan2c10_3 p0 p1 p2 p3 b4) [(.int ((128 : Int32) ||| (p0 &&& (127 : Int32)))), (.int (0 : Int32)), (.ref b4)])) X4 (fun t k => XT.ior X4.here hx rfl (hb hby at_50) rfl k) ?_
  refine OwnFin.step (g' := (mkF m 58 (Lan2c10_3 p0 p1 p2 p3 b4) [(.int ((128 : Int32) ||| (p0 &&& (127 : Int32)))), (.int (0 : Int32)), (.ref b4)])) X4 (fun t k => XS.goto X4.here hx rfl (pc0 := 51) (pc' := 58) rfl (hb hby at_51) (by decide) (by decide) k) ?_
  refine OwnFin.step (g' := (mkF m 59 (Lan2c10_3 p0 p1 p2 p3 b4) [(.int (((128 : Int32) ||| (p0 &&& (127 : Int32))).toInt8.toInt32)), (.int (0 : Int32)), (.ref b4)])) X4 (fun t k => XT.i2b X4.here hx rfl (hb hby at_58) rfl k) ?_
  obtain ⟨T5, h5, L5, X5, e5, N5, K5, A5, st5⟩ := own_stB X4 hx hZ e4 N0 (G := (fun _ => (0 : Int32))) B4 g_b4 (j := (0 : Int32)) (x := (((128 : Int32) ||| (p0 &&& (127 : Int32))).toInt8.toInt32)) (by decide) (g := (mkF m 59 (Lan2c10_3 p0 p1 p2 p3 b4) [(.int (((128 : Int32) ||| (p0 &&& (127 : Int32))).toInt8.toInt32)), (.int (0 : Int32)), (.ref b4)])) rfl rfl (hb hby at_59)
  have B5 : Ary Z h5 b4 .byte 2 (fun i => .int ((Gn2c10_59 p0) i)) := A5
  have Z5 := Nat.le_trans Z4 K5.1
  refine OwnFin.step (g' := (mkF m 60 (Lan2c10_3 p0 p1 p2 p3 b4) [])) X5 (fun t k => st5 _ k) ?_
  refine OwnFin.step (g' := (mkF m 62 (Lan2c10_3 p0 p1 p2 p3 b4) [(.int (2 : Int32))])) X5 (fun t k => XS.iload X5.here hx rfl (hb hby at_60) rfl k) ?_
  refine OwnFin.step (g' := (mkF m 63 (Lan2c10_3 p0 p1 p2 p3 b4) [(.int (1 : Int32)), (.int (2 : Int32))])) X5 (fun t k => XS.iconst X5.here hx rfl (hb hby at_62) k) ?_
  refine OwnFin.step (g' := (mkF m 66 (Lan2c10_3 p0 p1 p2 p3 b4) [])) X5 (fun t k => XS.icmpNo X5.here hx rfl (hb hby at_63) rfl (tlt (by decide)).2.2.2 k) ?_
  refine OwnFin.step (g' := (mkF m 68 (Lan2c10_3 p0 p1 p2 p3 b4) [(.ref b4)])) X5 (fun t k => XS.aload X5.here hx rfl (hb hby at_66) rfl rfl k) ?_
  refine OwnFin.step (g' := (mkF m 69 (Lan2c10_3 p0 p1 p2 p3 b4) [(.int (1 : Int32)), (.ref b4)])) X5 (fun t k => XS.iconst X5.here hx rfl (hb hby at_68) k) ?_
  refine OwnFin.step (g' := (mkF m 70 (Lan2c10_3 p0 p1 p2 p3 b4) [(.int p1), (.int (1 : Int32)), (.ref b4)])) X5 (fun t k => XS.iloadN X5.here hx rfl (hb hby at_69) rfl k) ?_
  refine OwnFin.step (g' := (mkF m 72 (Lan2c10_3 p0 p1 p2 p3 b4) [(.int (127 : Int32)), (.int p1), (.int (1 : Int32)), (.ref b4)])) X5 (fun t k => XS.bipush X5.here hx rfl (hb hby at_70) k) ?_
  refine OwnFin.step (g' := (mkF m 73 (Lan2c10_3 p0 p1 p2 p3 b4) [(.int (p1 &&& (127 : Int32))), (.int (1 : Int32)), (.ref b4)])) X5 (fun t k => XS.iand X5.here hx rfl (hb hby at_72) rfl k) ?_
  refine OwnFin.step (g' := (mkF m 74 (Lan2c10_3 p0 p1 p2 p3 b4) [(.int ((p1 &&& (127 : Int32)).toInt8.toInt32)), (.int (1 : Int32)), (.ref b4)])) X5 (fun t k => XT.i2b X5.here hx rfl (hb hby at_73) rfl k) ?_
  obtain ⟨T6, h6, L6, X6, e6, N6, K6, A6, st6⟩ := own_stB X5 hx hZ e5 N5 (G := (Gn2c10_59 p0)) B5 g_b4 (j := (1 : Int32)) (x := ((p1 &&& (127 : Int32)).toInt8.toInt32)) (by decide) (g := (mkF m 74 (Lan2c10_3 p0 p1 p2 p3 b4) [(.int ((p1 &&& (127 : Int32)).toInt8.toInt32)), (.int (1 : Int32)), (.ref b4)])) rfl rfl (hb hby at_74)
  have B6 : Ary Z h6 b4 .byte 2 (fun i => .int ((Gn2c10_74 p0 p1) i)) := A6
  have Z6 := Nat.le_trans Z5 K6.1
  refine OwnFin.step (g' := (mkF m 75 (Lan2c10_3 p0 p1 p2 p3 b4) [])) X6 (fun t k => st6 _ k) ?_
  refine OwnFin.step (g' := (mkF m 77 (Lan2c10_3 p0 p1 p2 p3 b4) [(.int (2 : Int32))])) X6 (fun t k => XS.iload X6.here hx rfl (hb hby at_75) rfl k) ?_
  refine OwnFin.step (g' := (mkF m 78 (Lan2c10_3 p0 p1 p2 p3 b4) [(.int (2 : Int32)), (.int (2 : Int32))])) X6 (fun t k => XS.iconst X6.here hx rfl (hb hby at_77) k) ?_
  refine OwnFin.step (g' := (mkF m 90 (Lan2c10_3 p0 p1 p2 p3 b4) [])) X6 (fun t k => XS.icmpYes X6.here hx rfl (pc0 := 78) (pc' := 90) rfl (hb hby at_78) rfl (flt (by decide)).2.2.2 (by decide) (by decide) k) ?_
  obtain ⟨T7, h7, X7, e7, E7, A7, D7, -, st7⟩ := newO X6 hx hZ hown (hw _ (wm 1 rfl)) (hw _ (wm 2 rfl)) (hw _ (wm 3 rfl)) e6 (g := (mkF m 90 (Lan2c10_3 p0 p1 p2 p3 b4) [])) rfl (hb hby at_90) (by decide) (by decide)
  obtain ⟨b7, y7⟩ : ∃ z, z = h6.size := ⟨_, rfl⟩
  rw [← y7] at A7 D7 st7
  have K7 := keep_ext E7
  have ne_b4_b7 : b4 ≠ b7 := Ary.neS B6 y7
  have g_b7 : n0 ≤ b7 := by rw [y7]; exact Z6
  have Z7 := Nat.le_trans Z6 K7.1
  have F7_record : Fld Z h7 b7 "com/example/faden/faden/rank/RecordReader" "record" "[B" .null := D7 (Or.inr (hw _ (wm 11 rfl))) (ty := (.array .byte)) (by decide)
  have F7_at : Fld Z h7 b7 "com/example/faden/faden/rank/RecordReader" "at" "I" (.int (0 : Int32)) := D7 (Or.inl (hw _ (wm 18 rfl))) (ty := .int) (by decide)
  refine OwnFin.step (g' := (mkF m 93 (Lan2c10_3 p0 p1 p2 p3 b4) [(.ref b7)])) X7 (fun t k => st7 _ k) ?_
  refine OwnFin.step (g' := (mkF m 94 (Lan2c10_3 p0 p1 p2 p3 b4) [(.ref b7), (.ref b7)])) X7 (fun t k => XS.dup X7.here hx rfl (hb hby at_93) rfl rfl k) ?_
  refine OwnFin.step (g' := (mkF m 96 (Lan2c10_3 p0 p1 p2 p3 b4) [(.ref b4), (.ref b7), (.ref b7)])) X7 (fun t k => XS.aload X7.here hx rfl (hb hby at_94) rfl rfl k) ?_
  obtain ⟨_, T8, L8, X8, ⟨rfl, N8q, u9, u10, u11, u12⟩, st8⟩ := own_callI X7 hx hZ (y := (⟨"com/example/faden/faden/rank/RecordReader", "<init>", "([B)V"⟩ : MethodName)) (W := 1) (a := b7) (argsL := [(.ref b4)]) (rest := [(.ref b7)]) rfl hown (hw _ (wm 4 rfl)) (hw _ (wm 5 rfl)) (hw _ (wm 3 rfl)) (hw _ (wm 6 rfl)) (by decide) (rm1 l Z a0 hw [] b7 b4 h7 n0 Z7 A7 g_b7 F7_record F7_at) (by decide) (by decide) (by decide) (by decide) e7 (g := (mkF m 96 (Lan2c10_3 p0 p1 p2 p3 b4) [(.ref b4), (.ref b7), (.ref b7)])) rfl (by rw [hml]; rfl) pd_0 rfl rfl (by show 2 * 0 + _ ≤ _; exact Nat.le_of_eq rfl) (hb hby at_96)
  have N8 := Fr.app N6 N8q
  obtain ⟨h8, e8⟩ : ∃ z, T8.heap = z := ⟨_, rfl⟩
  rw [e8] at u9 u10 u11 u12
  have K8 := u9
  have Z8 := Nat.le_trans Z7 K8.1
  refine OwnFin.step (g' := (mkF m 99 (Lan2c10_3 p0 p1 p2 p3 b4) [(.ref b7)])) X8 (fun t k => st8 _ k) ?_
  refine OwnFin.step (g' := (mkF m 101 (Lan2c10_4 p0 p1 p2 p3 b4 b7) [])) X8 (fun t k => XS.astore X8.here hx rfl (hb hby at_99) rfl rfl (l' := (Lan2c10_4 p0 p1 p2 p3 b4 b7)) rfl k) ?_
  refine OwnFin.step (g' := (mkF m 103 (Lan2c10_4 p0 p1 p2 p3 b4 b7) [(.ref b7)])) X8 (fun t k => XS.aload X8.here hx rfl (hb hby at_101) rfl rfl k) ?_
  have A14 := ((B6.keep K7 nin0).keep K8 (ninS ne_b4_b7 nin0))
  obtain ⟨_, T13, L13, X13, ⟨rfl, N13q, u15⟩, st13⟩ := own_callV X8 hx hZ (y := (⟨"com/example/faden/faden/rank/RecordReader", "atEnd", "()Z"⟩ : MethodName)) (W := 0) (a := b7) (argsL := []) (rest := []) hown (hw _ (wm 12 rfl)) (hw _ (wm 13 rfl)) (hw _ (wm 15 rfl)) (hw _ (wm 14 rfl)) (hw _ (wm 3 rfl)) (hw _ (wm 16 rfl)) (by decide) u10 (rm3 l Z a0 hw [] b7 2 (Gn2c10_74 p0 p1) b4 (0 : Int32) h8 n0 Z8 u10 g_b7 u11 u12 A14 (Ne.symm ne_b4_b7)) (by decide) (by decide) (by decide) (by decide) e8 (g := (mkF m 103 (Lan2c10_4 p0 p1 p2 p3 b4 b7) [(.ref b7)])) rfl (by rw [hml]; rfl) pd_1 rfl rfl (by show 2 * 0 + _ ≤ _; exact Nat.le_of_eq rfl) (hb hby at_103)
  have N13 := Fr.app N8 N13q
  obtain ⟨h13, e13⟩ : ∃ z, T13.heap = z := ⟨_, rfl⟩
  rw [e13] at u15
  have K13 := u15
  have Z13 := Nat.le_trans Z8 K13.1
  rw [show (nar .boolean (v3_17 (0 : Int32) 2)) = (0 : Int32) from by decide] at st13
  refine OwnFin.step (g' := (mkF m 106 (Lan2c10_4 p0 p1 p2 p3 b4 b7) [(.int (0 : Int32))])) X13 (fun t k => st13 _ k) ?_
  refine OwnFin.step (g' := (mkF m 108 (Lan2c10_4 p0 p1 p2 p3 b4 b7) [(.int (2 : Int32)), (.int (0 : Int32))])) X13 (fun t k => XS.iload X13.here hx rfl (hb hby at_106) rfl k) ?_
  refine OwnFin.step (g' := (mkF m 115 (Lan2c10_4 p0 p1 p2 p3 b4 b7) [(.int (0 : Int32))])) X13 (fun t k => XS.ifYes X13.here hx rfl (pc0 := 108) (pc' := 115) rfl (hb hby at_108) rfl ((if0 _ _).trans (feq (by decide)).2) (by decide) (by decide) k) ?_
  refine OwnFin.step (g' := (mkF m 116 (Lan2c10_4 p0 p1 p2 p3 b4 b7) [(.int (0 : Int32)), (.int (0 : Int32))])) X13 (fun t k => XS.iconst X13.here hx rfl (hb hby at_115) k) ?_
  refine OwnFin.step (g' := (mkF m 119 (Lan2c10_4 p0 p1 p2 p3 b4 b7) [])) X13 (fun t k => XS.icmpNo X13.here hx rfl (hb hby at_116) rfl (teq (by decide)).2 k) ?_
  refine OwnFin.step (g' := (mkF m 120 (Lan2c10_4 p0 p1 p2 p3 b4 b7) [(.int (1 : Int32))])) X13 (fun t k => XS.iconst X13.here hx rfl (hb hby at_119) k) ?_
  refine OwnFin.step (g' := (mkF m 124 (Lan2c10_4 p0 p1 p2 p3 b4 b7) [(.int (1 : Int32))])) X13 (fun t k => XS.goto X13.here hx rfl (pc0 := 120) (pc' := 124) rfl (hb hby at_120) (by decide) (by decide) k) ?_
  refine OwnFin.step (g' := (mkF m 126 (Lan2c10_5 p0 p1 p2 p3 b4 b7) [])) X13 (fun t k => XS.istore X13.here hx rfl (hb hby at_124) rfl (l' := (Lan2c10_5 p0 p1 p2 p3 b4 b7)) rfl k) ?_
  refine OwnFin.step (g' := (mkF m 127 (Lan2c10_5 p0 p1 p2 p3 b4 b7) [(.int (0 : Int32))])) X13 (fun t k => XS.iconst X13.here hx rfl (hb hby at_126) k) ?_
  refine OwnFin.step (g' := (mkF m 129 (Lan2c10_6 p0 p1 p2 p3 b4 b7) [])) X13 (fun t k => XS.istore X13.here hx rfl (hb hby at_127) rfl (l' := (Lan2c10_6 p0 p1 p2 p3 b4 b7)) rfl k) ?_
  refine OwnFin.step (g' := (mkF m 131 (Lan2c10_6 p0 p1 p2 p3 b4 b7) [(.int (2 : Int32))])) X13 (fun t k => XS.iload X13.here hx rfl (hb hby at_129) rfl k) ?_
  refine OwnFin.step (g' := (mkF m 132 (Lan2c10_6 p0 p1 p2 p3 b4 b7) [(.int (1 : Int32)), (.int (2 : Int32))])) X13 (fun t k => XS.iconst X13.here hx rfl (hb hby at_131) k) ?_
  refine OwnFin.step (g' := (mkF m 135 (Lan2c10_6 p0 p1 p2 p3 b4 b7) [])) X13 (fun t k => XS.icmpNo X13.here hx rfl (hb hby at_132) rfl (flt (by decide)).1 k) ?_
  refine OwnFin.step (g' := (mkF m 137 (Lan2c10_6 p0 p1 p2 p3 b4 b7) [(.ref b7)])) X13 (fun t k => XS.aload X13.here hx rfl (hb hby at_135) rfl rfl k) ?_
  have E17 := (Exa.keep u10 K13)
  have F18 := (u11.keep K13 nin0)
  have F19 := (u12.keep K13 nin0)
  have A20 := (A14.keep K13 nin0)
  obtain ⟨_, T16, L16, X16, ⟨rfl, N16q, u21, u22, u23, u24⟩, st16⟩ := own_callV X13 hx hZ (y := (⟨"com/example/faden/faden/rank/RecordReader", "number", "()I"⟩ : MethodName)) (W := 0) (a := b7) (argsL := []) (rest := []) hown (hw _ (wm 19 rfl)) (hw _ (wm 20 rfl)) (hw _ (wm 22 rfl)) (hw _ (wm 21 rfl)) (hw _ (wm 3 rfl)) (hw _ (wm 23 rfl)) (by decide) E17 (rm4a0k2 l Z a0 hw [] b7 2 (Gn2c10_74 p0 p1) b4 h13 n0 Z13 E17 g_b7 F18 F19 A20 (Ne.symm ne_b4_b7) (exhlnn2c10_137 p3 hn hm) (exhb0n2c10_137 p0 p1 p3 hn hm) (exhb1n2c10_137 p0 p1 p3 hn hm)) (by decide) (by decide) (by decide) (by decide) e13 (g := (mkF m 137 (Lan2c10_6 p0 p1 p2 p3 b4 b7) [(.ref b7)])) rfl (by rw [hml]; rfl) pd_2 rfl rfl (by show 2 * 0 + _ ≤ _; exact Nat.le_of_eq rfl) (hb hby at_137)
  have N16 := Fr.app N13 N16q
  obtain ⟨h16, e16⟩ : ∃ z, T16.heap = z := ⟨_, rfl⟩
  rw [e16] at u21 u22 u23 u24
  have K16 := u21
  have Z16 := Nat.le_trans Z13 K16.1
  refine OwnFin.step (g' := (mkF m 140 (Lan2c10_6 p0 p1 p2 p3 b4 b7) [(.int (va0k24_77b (Gn2c10_74 p0 p1)))])) X16 (fun t k => st16 _ k) ?_
  refine OwnFin.step (g' := (mkF m 141 (Lan2c10_6 p0 p1 p2 p3 b4 b7) [])) X16 (fun t k => XT.pop X16.here hx rfl (hb hby at_140) rfl rfl k) ?_
  refine OwnFin.step (g' := (mkF m 143 (Lan2c10_6 p0 p1 p2 p3 b4 b7) [(.int (0 : Int32))])) X16 (fun t k => XS.iload X16.here hx rfl (hb hby at_141) rfl k) ?_
  refine OwnFin.step (g' := (mkF m 145 (Lan2c10_6 p0 p1 p2 p3 b4 b7) [(.int (1 : Int32)), (.int (0 : Int32))])) X16 (fun t k => XS.iload X16.here hx rfl (hb hby at_143) rfl k) ?_
  refine OwnFin.step (g' := (mkF m 148 (Lan2c10_6 p0 p1 p2 p3 b4 b7) [(.int (0 : Int32))])) X16 (fun t k => XS.ifNo X16.here hx rfl (hb hby at_145) rfl ((if0 _ _).trans (feq (by decide)).1) k) ?_
  refine OwnFin.step (g' := (mkF m 149 (Lan2c10_6 p0 p1 p2 p3 b4 b7) [(.int (2 : Int32)), (.int (0 : Int32))])) X16 (fun t k => XS.iconst X16.here hx rfl (hb hby at_148) k) ?_
  refine OwnFin.step (g' := (mkF m 153 (Lan2c10_6 p0 p1 p2 p3 b4 b7) [(.int (2 : Int32)), (.int (0 : Int32))])) X16 (fun t k => XS.goto X16.here hx rfl (pc0 := 149) (pc' := 153) rfl (hb hby at_149) (by decide) (by decide) k) ?_
  refine OwnFin.step (g' := (mkF m 154 (Lan2c10_6 p0 p1 p2 p3 b4 b7) [(.int (2 : Int32))])) X16 (fun t k => XS.iadd X16.here hx rfl (hb hby at_153) rfl k) ?_
  refine OwnFin.step (g' := (mkF m 156 (Lan2c10_7 p0 p1 p2 p3 b4 b7) [])) X16 (fun t k => XS.istore X16.here hx rfl (hb hby at_154) rfl (l' := (Lan2c10_7 p0 p1 p2 p3 b4 b7)) rfl k) ?_
  refine OwnFin.step (g' := (mkF m 158 (Lan2c10_7 p0 p1 p2 p3 b4 b7) [(.int (1 : Int32))])) X16 (fun t k => XS.iload X16.here hx rfl (hb hby at_156) rfl k) ?_
  refine OwnFin.step (g' := (mkF m 161 (Lan2c10_7 p0 p1 p2 p3 b4 b7) [])) X16 (fun t k => XS.ifNo X16.here hx rfl (hb hby at_158) rfl ((if0 _ _).trans (feq (by decide)).1) k) ?_
  refine OwnFin.step (g' := (mkF m 163 (Lan2c10_7 p0 p1 p2 p3 b4 b7) [(.ref b7)])) X16 (fun t k => XS.aload X16.here hx rfl (hb hby at_161) rfl rfl k) ?_
  have A26 := (A20.keep K16 (ninS ne_b4_b7 nin0))
  obtain ⟨_, T25, L25, X25, ⟨rfl, N25q, u27⟩, st25⟩ := own_callV X16 hx hZ (y := (⟨"com/example/faden/faden/rank/RecordReader", "atEnd", "()Z"⟩ : MethodName)) (W := 0) (a := b7) (argsL := []) (rest := []) hown (hw _ (wm 12 rfl)) (hw _ (wm 13 rfl)) (hw _ (wm 15 rfl)) (hw _ (wm 14 rfl)) (hw _ (wm 3 rfl)) (hw _ (wm 16 rfl)) (by decide) u22 (rm3 l Z a0 hw [] b7 2 (Gn2c10_74 p0 p1) b4 (2 : Int32) h16 n0 Z16 u22 g_b7 u23 u24 A26 (Ne.symm ne_b4_b7)) (by decide) (by decide) (by decide) (by decide) e16 (g := (mkF m 163 (Lan2c10_7 p0 p1 p2 p3 b4 b7) [(.ref b7)])) rfl (by rw [hml]; rfl) pd_1 rfl rfl (by show 2 * 0 + _ ≤ _; exact Nat.le_of_eq rfl) (hb hby at_163)
  have N25 := Fr.app N16 N25q
  obtain ⟨h25, e25⟩ : ∃ z, T25.heap = z := ⟨_, rfl⟩
  rw [e25] at u27
  have K25 := u27
  have Z25 := Nat.le_trans Z16 K25.1
  rw [show (nar .boolean (v3_17 (2 : Int32) 2)) = (1 : Int32) from by decide] at st25
  refine OwnFin.step (g' := (mkF m 166 (Lan2c10_7 p0 p1 p2 p3 b4 b7) [(.int (1 : Int32))])) X25 (fun t k => st25 _ k) ?_
  refine OwnFin.step (g' := (mkF m 168 (Lan2c10_7 p0 p1 p2 p3 b4 b7) [(.int (2 : Int32)), (.int (1 : Int32))])) X25 (fun t k => XS.iload X25.here hx rfl (hb hby at_166) rfl k) ?_
  refine OwnFin.step (g' := (mkF m 170 (Lan2c10_7 p0 p1 p2 p3 b4 b7) [(.int (2 : Int32)), (.int (2 : Int32)), (.int (1 : Int32))])) X25 (fun t k => XS.iload X25.here hx rfl (hb hby at_168) rfl k) ?_
  refine OwnFin.step (g' := (mkF m 173 (Lan2c10_7 p0 p1 p2 p3 b4 b7) [(.int (1 : Int32))])) X25 (fun t k => XS.icmpNo X25.here hx rfl (hb hby at_170) rfl (teq (by decide)).2 k) ?_
  refine OwnFin.step (g' := (mkF m 174 (Lan2c10_7 p0 p1 p2 p3 b4 b7) [(.int (1 : Int32)), (.int (1 : Int32))])) X25 (fun t k => XS.iconst X25.here hx rfl (hb hby at_173) k) ?_
  refine OwnFin.step (g' := (mkF m 178 (Lan2c10_7 p0 p1 p2 p3 b4 b7) [(.int (1 : Int32)), (.int (1 : Int32))])) X25 (fun t k => XS.goto X25.here hx rfl (pc0 := 174) (pc' := 178) rfl (hb hby at_174) (by decide) (by decide) k) ?_
  refine OwnFin.step (g' := (mkF m 181 (Lan2c10_7 p0 p1 p2 p3 b4 b7) [])) X25 (fun t k => XS.icmpNo X25.here hx rfl (hb hby at_178) rfl (teq (by decide)).2 k) ?_
  refine OwnFin.step (g' := (mkF m 182 (Lan2c10_7 p0 p1 p2 p3 b4 b7) [(.int (1 : Int32))])) X25 (fun t k => XS.iconst X25.here hx rfl (hb hby at_181) k) ?_
  refine OwnFin.step (g' := (mkF m 186 (Lan2c10_7 p0 p1 p2 p3 b4 b7) [(.int (1 : Int32))])) X25 (fun t k => XS.goto X25.here hx rfl (pc0 := 182) (pc' := 186) rfl (hb hby at_182) (by decide) (by decide) k) ?_
  refine OwnFin.step (g' := (mkF m 188 (Lan2c10_7 p0 p1 p2 p3 b4 b7) [])) X25 (fun t k => XS.istore X25.here hx rfl (hb hby at_186) rfl (l' := (Lan2c10_7 p0 p1 p2 p3 b4 b7)) rfl k) ?_
  refine OwnFin.step (g' := (mkF m 190 (Lan2c10_7 p0 p1 p2 p3 b4 b7) [(.int (2 : Int32))])) X25 (fun t k => XS.iload X25.here hx rfl (hb hby at_188) rfl k) ?_
  refine OwnFin.step (g' := (mkF m 192 (Lan2c10_7 p0 p1 p2 p3 b4 b7) [(.int (2 : Int32)), (.int (2 : Int32))])) X25 (fun t k => XS.iload X25.here hx rfl (hb hby at_190) rfl k) ?_
  refine OwnFin.step (g' := (mkF m 239 (Lan2c10_7 p0 p1 p2 p3 b4 b7) [])) X25 (fun t k => XS.icmpYes X25.here hx rfl (pc0 := 192) (pc' := 239) rfl (hb hby at_192) rfl (flt (by decide)).2.1 (by decide) (by decide) k) ?_
  refine OwnFin.step (g' := (mkF m 241 (Lan2c10_7 p0 p1 p2 p3 b4 b7) [(.int (2 : Int32))])) X25 (fun t k => XS.iload X25.here hx rfl (hb hby at_239) rfl k) ?_
  refine OwnFin.step (g' := (mkF m 243 (Lan2c10_7 p0 p1 p2 p3 b4 b7) [(.int (2 : Int32)), (.int (2 : Int32))])) X25 (fun t k => XS.iload X25.here hx rfl (hb hby at_241) rfl k) ?_
  refine OwnFin.step (g' := (mkF m 290 (Lan2c10_7 p0 p1 p2 p3 b4 b7) [])) X25 (fun t k => XS.icmpYes X25.here hx rfl (pc0 := 243) (pc' := 290) rfl (hb hby at_243) rfl (flt (by decide)).2.1 (by decide) (by decide) k) ?_
  refine OwnFin.step (g' := (mkF m 292 (Lan2c10_7 p0 p1 p2 p3 b4 b7) [(.int (1 : Int32))])) X25 (fun t k => XS.iload X25.here hx rfl (hb hby at_290) rfl k) ?_
  refine OwnFin.step (g' := (mkF m 295 (Lan2c10_7 p0 p1 p2 p3 b4 b7) [])) X25 (fun t k => XS.ifNo X25.here hx rfl (hb hby at_292) rfl ((if0 _ _).trans (feq (by decide)).1) k) ?_
  refine OwnFin.step (g' := (mkF m 297 (Lan2c10_7 p0 p1 p2 p3 b4 b7) [(.ref b7)])) X25 (fun t k => XS.aload X25.here hx rfl (hb hby at_295) rfl rfl k) ?_
  have E29 := (Exa.keep u22 K25)
  have F30 := (u23.keep K25 nin0)
  have F31 := (u24.keep K25 nin0)
  have A32 := (A26.keep K25 nin0)
  obtain ⟨_, T28, L28, X28, ⟨rfl, N28q, u33⟩, st28⟩ := own_callV X25 hx hZ (y := (⟨"com/example/faden/faden/rank/RecordReader", "atEnd", "()Z"⟩ : MethodName)) (W := 0) (a := b7) (argsL := []) (rest := []) hown (hw _ (wm 12 rfl)) (hw _ (wm 13 rfl)) (hw _ (wm 15 rfl)) (hw _ (wm 14 rfl)) (hw _ (wm 3 rfl)) (hw _ (wm 16 rfl)) (by decide) E29 (rm3 l Z a0 hw [] b7 2 (Gn2c10_74 p0 p1) b4 (2 : Int32) h25 n0 Z25 E29 g_b7 F30 F31 A32 (Ne.symm ne_b4_b7)) (by decide) (by decide) (by decide) (by decide) e25 (g := (mkF m 297 (Lan2c10_7 p0 p1 p2 p3 b4 b7) [(.ref b7)])) rfl (by rw [hml]; rfl) pd_1 rfl rfl (by show 2 * 0 + _ ≤ _; exact Nat.le_of_eq rfl) (hb hby at_297)
  have N28 := Fr.app N25 N28q
  obtain ⟨h28, e28⟩ : ∃ z, T28.heap = z := ⟨_, rfl⟩
  rw [e28] at u33
  have K28 := u33
  have Z28 := Nat.le_trans Z25 K28.1
  rw [show (nar .boolean (v3_17 (2 : Int32) 2)) = (1 : Int32) from by decide] at st28
  refine OwnFin.step (g' := (mkF m 300 (Lan2c10_7 p0 p1 p2 p3 b4 b7) [(.int (1 : Int32))])) X28 (fun t k => st28 _ k) ?_
  refine OwnFin.step (g' := (mkF m 303 (Lan2c10_7 p0 p1 p2 p3 b4 b7) [])) X28 (fun t k => XS.ifNo X28.here hx rfl (hb hby at_300) rfl ((if0 _ _).trans (feq (by decide)).1) k) ?_
  refine OwnFin.step (g' := (mkF m 304 (Lan2c10_7 p0 p1 p2 p3 b4 b7) [(.int (1 : Int32))])) X28 (fun t k => XS.iconst X28.here hx rfl (hb hby at_303) k) ?_
  refine OwnFin.step (g' := (mkF m 308 (Lan2c10_7 p0 p1 p2 p3 b4 b7) [(.int (1 : Int32))])) X28 (fun t k => XS.goto X28.here hx rfl (pc0 := 304) (pc' := 308) rfl (hb hby at_304) (by decide) (by decide) k) ?_
  refine OwnFin.step (g' := (mkF m 310 (Lan2c10_7 p0 p1 p2 p3 b4 b7) [])) X28 (fun t k => XS.istore X28.here hx rfl (hb hby at_308) rfl (l' := (Lan2c10_7 p0 p1 p2 p3 b4 b7)) rfl k) ?_
  refine OwnFin.step (g' := (mkF m 312 (Lan2c10_7 p0 p1 p2 p3 b4 b7) [(.int (1 : Int32))])) X28 (fun t k => XS.iload X28.here hx rfl (hb hby at_310) rfl k) ?_
  refine OwnFin.retNar X28 (by simp) (hb hby at_312) (by decide) (by decide) ?_
  exact ⟨rfl, N28⟩
set_option maxRecDepth 65536 in
set_option maxHeartbeats 40000000 in
theorem rm0n2c1 (l : Launch) (Z : State) (a0 : Array Value) (hw : ∀ d ∈ tables_1, d.before a0 Z = true) (ws : List Jvm.Cond) (p0 : Int32) (p1 : Int32) (p2 : Int32) (p3 : Int32) (h0 : Heap) (n0 : Nat) (Z0 : n0 ≤ h0.size) (hn : vn2c10_3 p3 = (2 : Int32)) (hm : vn2c10_22 p3 = (1 : Int32)) :
    MetFree l x (head1 (Jvm.Cond.code x code maxLocals ret :: ws) room_1) (fun a U => a = #[(.int p0), (.int p1), (.int p2), (.int p3)] ∧ Z.Warmed39 U.vm ∧ U.heap = h0) (fun _ _ _ _ _ => True) (fun _ U o U' => ∃ v L, o = .returned v ∧ (LQ n0) v U'.heap L ∧ FrameEnd U o U' L room_1.cells room_1.slots) :=
  own_met (ret := ret) (Q := (LQ n0)) (plainFor_of_name pn_0) (fun m => ef_0 m p0 p1 p2 p3) (fun p e s m below meth c s₁ X hx hby hml hown hnm hZ e0 => j0n2c1 X hx hZ hw hby hml hown hnm e0 (Fr.nil n0) Z0 p0 p1 p2 p3 hn hm)
def vn3c00_3 (p3 : Int32) : Int32 := (p3 &&& (3 : Int32))
def vn3c00_22 (p3 : Int32) : Int32 := (if (p3 &&& (4 : Int32)) = (0 : Int32) then (0 : Int32) else (1 : Int32))
def Gn3c00_59 (p0 : Int32) : Nat → Int32 := (updN (fun _ => (0 : Int32)) ((0 : Int32)).toNatClampNeg (nar .byte ((p0 &&& (127 : Int32)).toInt8.toInt32)))
def Gn3c00_74 (p0 : Int32) (p1 : Int32) : Nat → Int32 := (updN (Gn3c00_59 p0) ((1 : Int32)).toNatClampNeg (nar .byte ((p1 &&& (127 : Int32)).toInt8.toInt32)))
def Gn3c00_89 (p0 : Int32) (p1 : Int32) (p2 : Int32) : Nat → Int32 := (updN (Gn3c00_74 p0 p1) ((2 : Int32)).toNatClampNeg (nar .byte ((p2 &&& (127 : Int32)).toInt8.toInt32)))
theorem exhlnn3c00_137 (p3 : Int32) (hn : vn3c00_3 p3 = (3 : Int32)) (hm : vn3c00_22 p3 = (0 : Int32)) : 1 ≤ 3 ∧ 3 < 100 := by decide
theorem exhb0n3c00_137 (p0 : Int32) (p1 : Int32) (p2 : Int32) (p3 : Int32) (hn : vn3c00_3 p3 = (3 : Int32)) (hm : vn3c00_22 p3 = (0 : Int32)) : (((Gn3c00_89 p0 p1 p2) 0) &&& 255).toInt < 128 := by
  have b := own_b127 p0
  have h : (((Gn3c00_89 p0 p1 p2) 0) &&& 255).toInt = (p0 &&& 127).toInt := own_lo b
  omega
theorem exhlnn3c00_197 (p3 : Int32) (hn : vn3c00_3 p3 = (3 : Int32)) (hm : vn3c00_22 p3 = (0 : Int32)) : 2 ≤ 3 ∧ 3 < 100 := by decide
theorem exhb0n3c00_197 (p0 : Int32) (p1 : Int32) (p2 : Int32) (p3 : Int32) (hn : vn3c00_3 p3 = (3 : Int32)) (hm : vn3c00_22 p3 = (0 : Int32)) : (((Gn3c00_89 p0 p1 p2) 1) &&& 255).toInt < 128 := by
  have b := own_b127 p1
  have h : (((Gn3c00_89 p0 p1 p2) 1) &&& 255).toInt = (p1 &&& 127).toInt := own_lo b
  omega
theorem exhlnn3c00_248 (p3 : Int32) (hn : vn3c00_3 p3 = (3 : Int32)) (hm : vn3c00_22 p3 = (0 : Int32)) : 3 ≤ 3 ∧ 3 < 100 := by decide
theorem exhb0n3c00_248 (p0 : Int32) (p1 : Int32) (p2 : Int32) (p3 : Int32) (hn : vn3c00_3 p3 = (3 : Int32)) (hm : vn3c00_22 p3 = (0 : Int32)) : (((Gn3c00_89 p0 p1 p2) 2) &&& 255).toInt < 128 := by
  have b := own_b127 p2
  have h : (((Gn3c00_89 p0 p1 p2) 2) &&& 255).toInt = (p2 &&& 127).toInt := own_lo b
  omega
abbrev Lan3c00_0 (p0 : Int32) (p1 : Int32) (p2 : Int32) (p3 : Int32) : Array Slot := #[.val (.int p0), .val (.int p1), .val (.int p2), .val (.int p3), .unset, .unset, .unset, .unset, .unset, .unset]
abbrev Lan3c00_1 (p0 : Int32) (p1 : Int32) (p2 : Int32) (p3 : Int32) : Array Slot := #[.val (.int p0), .val (.int p1), .val (.int p2), .val (.int p3), .val (.int (3 : Int32)), .unset, .unset, .unset, .unset, .unset]
abbrev Lan3c00_2 (p0 : Int32) (p1 : Int32) (p2 : Int32) (p3 : Int32) : Array Slot := #[.val (.int p0), .val (.int p1), .val (.int p2), .val (.int p3), .val (.int (3 : Int32)), .val (.int (0 : Int32)), .unset, .unset, .unset, .unset]
abbrev Lan3c00_3 (p0 : Int32) (p1 : Int32) (p2 : Int32) (p3 : Int32) (b4 : Addr) : Array Slot := #[.val (.int p0), .val (.int p1), .val (.int p2), .val (.int p3), .val (.int (3 : Int32)), .val (.int (0 : Int32)), .val (.ref b4), .unset, .unset, .unset]
abbrev Lan3c00_4 (p0 : Int32) (p1 : Int32) (p2 : Int32) (p3 : Int32) (b4 : Addr) (b8 : Addr) : Array Slot := #[.val (.int p0), .val (.int p1), .val (.int p2), .val (.int p3), .val (.int (3 : Int32)), .val (.int (0 : Int32)), .val (.ref b4), .val (.ref b8), .unset, .unset]
abbrev Lan3c00_5 (p0 : Int32) (p1 : Int32) (p2 : Int32) (p3 : Int32) (b4 : Addr) (b8 : Addr) : Array Slot := #[.val (.int p0), .val (.int p1), .val (.int p2), .val (.int p3), .val (.int (3 : Int32)), .val (.int (0 : Int32)), .val (.ref b4), .val (.ref b8), .val (.int (1 : Int32)), .unset]
abbrev Lan3c00_6 (p0 : Int32) (p1 : Int32) (p2 : Int32) (p3 : Int32) (b4 : Addr) (b8 : Addr) : Array Slot := #[.val (.int p0), .val (.int p1), .val (.int p2), .val (.int p3), .val (.int (3 : Int32)), .val (.int (0 : Int32)), .val (.ref b4), .val (.ref b8), .val (.int (1 : Int32)), .val (.int (0 : Int32))]
abbrev Lan3c00_7 (p0 : Int32) (p1 : Int32) (p2 : Int32) (p3 : Int32) (b4 : Addr) (b8 : Addr) : Array Slot := #[.val (.int p0), .val (.int p1), .val (.int p2), .val (.int p3), .val (.int (3 : Int32)), .val (.int (0 : Int32)), .val (.ref b4), .val (.ref b8), .val (.int (1 : Int32)), .val (.int (1 : Int32))]
abbrev Lan3c00_8 (p0 : Int32) (p1 : Int32) (p2 : Int32) (p3 : Int32) (b4 : Addr) (b8 : Addr) : Array Slot := #[.val (.int p0), .val (.int p1), .val (.int p2), .val (.int p3), .val (.int (3 : Int32)), .val (.int (0 : Int32)), .val (.ref b4), .val (.ref b8), .val (.int (1 : Int32)), .val (.int (2 : Int32))]
abbrev Lan3c00_9 (p0 : Int32) (p1 : Int32) (p2 : Int32) (p3 : Int32) (b4 : Addr) (b8 : Addr) : Array Slot := #[.val (.int p0), .val (.int p1), .val (.int p2), .val (.int p3), .val (.int (3 : Int32)), .val (.int (0 : Int32)), .val (.ref b4), .val (.ref b8), .val (.int (1 : Int32)), .val (.int (3 : Int32))]
set_option maxRecDepth 65536 in
set_option maxHeartbeats 40000000 in
theorem j0n3c0 {p : Program} {l : Launch} {e : Env} {s : State} {m : MethodId} {args : Array Value} {below : List Frame} {meth : Method} {c : Code} {T0 : State} {locs : List Loc} {Z : State} {a0 : Array Value} {h0 : Heap} {n0 : Nat}
    (X0 : Stand p l e room_1 s m args below meth c T0 locs 0 0) (hx : p.tables.exec = Jvm.exec) (hZ : Z.Warmed39 s.vm) (hw : ∀ d ∈ tables_1, d.before a0 Z = true) (hby : c.code = code) (hml : c.maxLocals = 10) (hown : s.vm.findClass "com/example/faden/faden/rank/RecordReaderAtEndPinLaw" = some m.cls) (hnm : meth.name = "law") (e0 : T0.heap = h0) (N0 : Fr n0 locs) (Z0 : n0 ≤ h0.size) (p0 : Int32) (p1 : Int32) (p2 : Int32) (p3 : Int32) (hn : vn3c00_3 p3 = (3 : Int32)) (hm : vn3c00_22 p3 = (0 : Int32)) :
    OwnFin X0 (some .boolean) (LQ n0) room_1.cells room_1.slots (mkF m 0 #[.val (.int p0), .val (.int p1), .val (.int p2), .val (.int p3), .unset, .unset, .unset, .unset, .unset, .unset] []) := by
  refine OwnFin.step (g' := (mkF m 1 (Lan3c00_0 p0 p1 p2 p3) [(.int p3)])) X0 (fun t k => XS.iloadN X0.here hx rfl (hb hby at_0) rfl k) ?_
  refine OwnFin.step (g' := (mkF m 2 (Lan3c00_0 p0 p1 p2 p3) [(.int (3 : Int32)), (.int p3)])) X0 (fun t k => XS.iconst X0.here hx rfl (hb hby at_1) k) ?_
  refine OwnFin.step (g' := (mkF m 3 (Lan3c00_0 p0 p1 p2 p3) [(.int (p3 &&& (3 : Int32)))])) X0 (fun t k => XS.iand X0.here hx rfl (hb hby at_2) rfl k) ?_
  refine OwnFin.step (g' := (mkF m 5 #[.val (.int p0), .val (.int p1), .val (.int p2), .val (.int p3), .val (.int (vn3c00_3 p3)), .unset, .unset, .unset, .unset, .unset] [])) X0 (fun t k => XS.istore X0.here hx rfl (hb hby at_3) rfl (l' := #[.val (.int p0), .val (.int p1), .val (.int p2), .val (.int p3), .val (.int (vn3c00_3 p3)), .unset, .unset, .unset, .unset, .unset]) rfl k) ?_
  rw [hn]
  refine OwnFin.step (g' := (mkF m 6 (Lan3c00_1 p0 p1 p2 p3) [(.int p3)])) X0 (fun t k => XS.iloadN X0.here hx rfl (hb hby at_5) rfl k) ?_
  refine OwnFin.step (g' := (mkF m 7 (Lan3c00_1 p0 p1 p2 p3) [(.int (4 : Int32)), (.int p3)])) X0 (fun t k => XS.iconst X0.here hx rfl (hb hby at_6) k) ?_
  refine OwnFin.step (g' := (mkF m 8 (Lan3c00_1 p0 p1 p2 p3) [(.int (p3 &&& (4 : Int32)))])) X0 (fun t k => XS.iand X0.here hx rfl (hb hby at_7) rfl k) ?_
  refine OwnFin.step (g' := (mkF m 22 #[.val (.int p0), .val (.int p1), .val (.int p2), .val (.int p3), .val (.int (3 : Int32)), .unset, .unset, .unset, .unset, .unset] [(.int (vn3c00_22 p3))])) X0 (fun t k => ?_) ?_
  · show Steps p.tables e below (T0.setTop (mkF m 8 (Lan3c00_1 p0 p1 p2 p3) [(.int (p3 &&& (4 : Int32)))])) t
    by_cases hc1 : (p3 &&& (4 : Int32)) = (0 : Int32)
    · skip
      refine XS.ifYes X0.here hx rfl (pc0 := 8) (pc' := 21) rfl (hb hby at_8) rfl ((if0 _ _).trans (teq hc1).1) (by decide) (by decide) ?_
      show Steps p.tables e below (T0.setTop (mkF m 21 (Lan3c00_1 p0 p1 p2 p3) [])) t
      refine XS.iconst X0.here hx rfl (hb hby at_21) ?_
      show Steps p.tables e below (T0.setTop (mkF m 22 (Lan3c00_1 p0 p1 p2 p3) [(.int (0 : Int32))])) t
      have q2 : (vn3c00_22 p3) = (0 : Int32) := by
        show (if (p3 &&& (4 : Int32)) = (0 : Int32) then (0 : Int32) else (1 : Int32)) = (0 : Int32)
        simp only [if_pos hc1]
      rw [q2] at k
      exact k
    · skip
      refine XS.ifNo X0.here hx rfl (hb hby at_8) rfl ((if0 _ _).trans (feq hc1).1) ?_
      show Steps p.tables e below (T0.setTop (mkF m 11 (Lan3c00_1 p0 p1 p2 p3) [])) t
      refine XS.iload X0.here hx rfl (hb hby at_11) rfl ?_
      show Steps p.tables e below (T0.setTop (mkF m 13 (Lan3c00_1 p0 p1 p2 p3) [(.int (3 : Int32))])) t
      refine XS.iconst X0.here hx rfl (hb hby at_13) ?_
      show Steps p.tables e below (T0.setTop (mkF m 14 (Lan3c00_1 p0 p1 p2 p3) [(.int (2 : Int32)), (.int (3 : Int32))])) t
      refine XS.icmpNo X0.here hx rfl (hb hby at_14) rfl (flt (by decide)).1 ?_
      show Steps p.tables e below (T0.setTop (mkF m 17 (Lan3c00_1 p0 p1 p2 p3) [])) t
      refine XS.iconst X0.here hx rfl (hb hby at_17) ?_
      show Steps p.tables e below (T0.setTop (mkF m 18 (Lan3c00_1 p0 p1 p2 p3) [(.int (1 : Int32))])) t
      refine XS.goto X0.here hx rfl (pc0 := 18) (pc' := 22) rfl (hb hby at_18) (by decide) (by decide) ?_
      show Steps p.tables e below (T0.setTop (mkF m 22 (Lan3c00_1 p0 p1 p2 p3) [(.int (1 : Int32))])) t
      have q3 : (vn3c00_22 p3) = (1 : Int32) := by
        show (if (p3 &&& (4 : Int32)) = (0 : Int32) then (0 : Int32) else (1 : Int32)) = (1 : Int32)
        simp only [if_neg hc1]
      rw [q3] at k
      exact k
  refine OwnFin.step (g' := (mkF m 24 #[.val (.int p0), .val (.int p1), .val (.int p2), .val (.int p3), .val (.int (3 : Int32)), .val (.int (vn3c00_22 p3)), .unset, .unset, .unset, .unset] [])) X0 (fun t k => XS.istore X0.here hx rfl (hb hby at_22) rfl (l' := #[.val (.int p0), .val (.int p1), .val (.int p2), .val (.int p3), .val (.int (3 : Int32)), .val (.int (vn3c00_22 p3)), .unset, .unset, .unset, .unset]) rfl k) ?_
  rw [hm]
  refine OwnFin.step (g' := (mkF m 26 (Lan3c00_2 p0 p1 p2 p3) [(.int (3 : Int32))])) X0 (fun t k => XS.iload X0.here hx rfl (hb hby at_24) rfl k) ?_
  obtain ⟨T4, h4, b4, X4, e4, y4, K4, A4, st4⟩ := own_new X0 hx hZ (hw _ (wm 0 rfl)) e0 (g := (mkF m 26 (Lan3c00_2 p0 p1 p2 p3) [(.int (3 : Int32))])) rfl (hb hby at_26) rfl (by decide) (cap := 3) (by decide) (by decide) (by decide) (by decide)
  have B4 : Ary Z h4 b4 .byte 3 (fun i => .int ((fun _ => (0 : Int32)) i)) := A4
  have g_b4 : n0 ≤ b4 := by rw [y4]; exact Z0
  have Z4 := Nat.le_trans Z0 K4.1
  refine OwnFin.step (g' := (mkF m 28 (Lan3c00_2 p0 p1 p2 p3) [(.ref b4)])) X4 (fun t k => st4 _ k) ?_
  refine OwnFin.step (g' := (mkF m 30 (Lan3c00_3 p0 p1 p2 p3 b4) [])) X4 (fun t k => XS.astore X4.here hx rfl (hb hby at_28) rfl rfl (l' := (Lan3c00_3 p0 p1 p2 p3 b4)) rfl k) ?_
  refine OwnFin.step (g' := (mkF m 32 (Lan3c00_3 p0 p1 p2 p3 b4) [(.int (3 : Int32))])) X4 (fun t k => XS.iload X4.here hx rfl (hb hby at_30) rfl k) ?_
  refine OwnFin.step (g' := (mkF m 35 (Lan3c00_3 p0 p1 p2 p3 b4) [])) X4 (fun t k => XS.ifNo X4.here hx rfl (hb hby at_32) rfl ((if0 _ _).trans (tlt (by decide)).2.2.2) k) ?_
  refine OwnFin.step (g' := (mkF m 37 (Lan3c00_3 p0 p1 p2 p3 b4) [(.ref b4)])) X4 (fun t k => XS.aload X4.here hx rfl (hb hby at_35) rfl rfl k) ?_
  refine OwnFin.step (g' := (mkF m 38 (Lan3c00_3 p0 p1 p2 p3 b4) [(.int (0 : Int32)), (.ref b4)])) X4 (fun t k => XS.iconst X4.here hx rfl (hb hby at_37) k) ?_
  refine OwnFin.step (g' := (mkF m 40 (Lan3c00_3 p0 p1 p2 p3 b4) [(.int (0 : Int32)), (.int (0 : Int32)), (.ref b4)])) X4 (fun t k => XS.iload X4.here hx rfl (hb hby at_38) rfl k) ?_
  refine OwnFin.step (g' := (mkF m 54 (Lan3c00_3 p0 p1 p2 p3 b4) [(.int (0 : Int32)), (.ref b4)])) X4 (fun t k => XS.ifYes X4.here hx rfl (pc0 := 40) (pc' := 54) rfl (hb hby at_40) rfl ((if0 _ _).trans (teq (by decide)).1) (by decide) (by decide) k) ?_
  refine OwnFin.step (g' := (mkF m 55 (Lan3c00_3 p0 p1 p2 p3 b4) [(.int p0), (.int (0 : Int32)), (.ref b4)])) X4 (fun t k => XS.iloadN X4.here hx rfl (hb hby at_54) rfl k) ?_
  refine OwnFin.step (g' := (mkF m 57 (Lan3c00_3 p0 p1 p2 p3 b4) [(.int (127 : Int32)), (.int p0), (.int (0 : Int32)), (.ref b4)])) X4 (fun t k => XS.bipush X4.here hx rfl (hb hby at_55) k) ?_
  refine OwnFin.step (g' := (mkF m 58 (Lan3c00_3 p0 p1 p2 p3 b4) [(.int (p0 &&& (127 : Int32))), (.int (0 : Int32)), (.ref b4)])) X4 (fun t k => XS.iand X4.here hx rfl (hb hby at_57) rfl k) ?_
  refine OwnFin.step (g' := (mkF m 59 (Lan3c00_3 p0 p1 p2 p3 b4) [(.int ((p0 &&& (127 : Int32)).toInt8.toInt32)), (.int (0 : Int32)), (.ref b4)])) X4 (fun t k => XT.i2b X4.here hx rfl (hb hby at_58) rfl k) ?_
  obtain ⟨T5, h5, L5, X5, e5, N5, K5, A5, st5⟩ := own_stB X4 hx hZ e4 N0 (G := (fun _ => (0 : Int32))) B4 g_b4 (j := (0 : Int32)) (x := ((p0 &&& (127 : Int32)).toInt8.toInt32)) (by decide) (g := (mkF m 59 (Lan3c00_3 p0 p1 p2 p3 b4) [(.int ((p0 &&& (127 : Int32)).toInt8.toInt32)), (.int (0 : Int32)), (.ref b4)])) rfl rfl (hb hby at_59)
  have B5 : Ary Z h5 b4 .byte 3 (fun i => .int ((Gn3c00_59 p0) i)) := A5
  have Z5 := Nat.le_trans Z4 K5.1
  refine OwnFin.step (g' := (mkF m 60 (Lan3c00_3 p0 p1 p2 p3 b4) [])) X5 (fun t k => st5 _ k) ?_
  refine OwnFin.step (g' := (mkF m 62 (Lan3c00_3 p0 p1 p2 p3 b4) [(.int (3 : Int32))])) X5 (fun t k => XS.iload X5.here hx rfl (hb hby at_60) rfl k) ?_
  refine OwnFin.step (g' := (mkF m 63 (Lan3c00_3 p0 p1 p2 p3 b4) [(.int (1 : Int32)), (.int (3 : Int32))])) X5 (fun t k => XS.iconst X5.here hx rfl (hb hby at_62) k) ?_
  refine OwnFin.step (g' := (mkF m 66 (Lan3c00_3 p0 p1 p2 p3 b4) [])) X5 (fun t k => XS.icmpNo X5.here hx rfl (hb hby at_63) rfl (tlt (by decide)).2.2.2 k) ?_
  refine OwnFin.step (g' := (mkF m 68 (Lan3c00_3 p0 p1 p2 p3 b4) [(.ref b4)])) X5 (fun t k => XS.aload X5.here hx rfl (hb hby at_66) rfl rfl k) ?_
  refine OwnFin.step (g' := (mkF m 69 (Lan3c00_3 p0 p1 p2 p3 b4) [(.int (1 : Int32)), (.ref b4)])) X5 (fun t k => XS.iconst X5.here hx rfl (hb hby at_68) k) ?_
  refine OwnFin.step (g' := (mkF m 70 (Lan3c00_3 p0 p1 p2 p3 b4) [(.int p1), (.int (1 : Int32)), (.ref b4)])) X5 (fun t k => XS.iloadN X5.here hx rfl (hb hby at_69) rfl k) ?_
  refine OwnFin.step (g' := (mkF m 72 (Lan3c00_3 p0 p1 p2 p3 b4) [(.int (127 : Int32)), (.int p1), (.int (1 : Int32)), (.ref b4)])) X5 (fun t k => XS.bipush X5.here hx rfl (hb hby at_70) k) ?_
  refine OwnFin.step (g' := (mkF m 73 (Lan3c00_3 p0 p1 p2 p3 b4) [(.int (p1 &&& (127 : Int32))), (.int (1 : Int32)), (.ref b4)])) X5 (fun t k => XS.iand X5.here hx rfl (hb hby at_72) rfl k) ?_
  refine OwnFin.step (g' := (mkF m 74 (Lan3c00_3 p0 p1 p2 p3 b4) [(.int ((p1 &&& (127 : Int32)).toInt8.toInt32)), (.int (1 : Int32)), (.ref b4)])) X5 (fun t k => XT.i2b X5.here hx rfl (hb hby at_73) rfl k) ?_
  obtain ⟨T6, h6, L6, X6, e6, N6, K6, A6, st6⟩ := own_stB X5 hx hZ e5 N5 (G := (Gn3c00_59 p0)) B5 g_b4 (j := (1 : Int32)) (x := ((p1 &&& (127 : Int32)).toInt8.toInt32)) (by decide) (g := (mkF m 74 (Lan3c00_3 p0 p1 p2 p3 b4) [(.int ((p1 &&& (127 : Int32)).toInt8.toInt32)), (.int (1 : Int32)), (.ref b4)])) rfl rfl (hb hby at_74)
  have B6 : Ary Z h6 b4 .byte 3 (fun i => .int ((Gn3c00_74 p0 p1) i)) := A6
  have Z6 := Nat.le_trans Z5 K6.1
  refine OwnFin.step (g' := (mkF m 75 (Lan3c00_3 p0 p1 p2 p3 b4) [])) X6 (fun t k => st6 _ k) ?_
  refine OwnFin.step (g' := (mkF m 77 (Lan3c00_3 p0 p1 p2 p3 b4) [(.int (3 : Int32))])) X6 (fun t k => XS.iload X6.here hx rfl (hb hby at_75) rfl k) ?_
  refine OwnFin.step (g' := (mkF m 78 (Lan3c00_3 p0 p1 p2 p3 b4) [(.int (2 : Int32)), (.int (3 : Int32))])) X6 (fun t k => XS.iconst X6.here hx rfl (hb hby at_77) k) ?_
  refine OwnFin.step (g' := (mkF m 81 (Lan3c00_3 p0 p1 p2 p3 b4) [])) X6 (fun t k => XS.icmpNo X6.here hx rfl (hb hby at_78) rfl (tlt (by decide)).2.2.2 k) ?_
  refine OwnFin.step (g' := (mkF m 83 (Lan3c00_3 p0 p1 p2 p3 b4) [(.ref b4)])) X6 (fun t k => XS.aload X6.here hx rfl (hb hby at_81) rfl rfl k) ?_
  refine OwnFin.step (g' := (mkF m 84 (Lan3c00_3 p0 p1 p2 p3 b4) [(.int (2 : Int32)), (.ref b4)])) X6 (fun t k => XS.iconst X6.here hx rfl (hb hby at_83) k) ?_
  refine OwnFin.step (g' := (mkF m 85 (Lan3c00_3 p0 p1 p2 p3 b4) [(.int p2), (.int (2 : Int32)), (.ref b4)])) X6 (fun t k => XS.iloadN X6.here hx rfl (hb hby at_84) rfl k) ?_
  refine OwnFin.step (g' := (mkF m 87 (Lan3c00_3 p0 p1 p2 p3 b4) [(.int (127 : Int32)), (.int p2), (.int (2 : Int32)), (.ref b4)])) X6 (fun t k => XS.bipush X6.here hx rfl (hb hby at_85) k) ?_
  refine OwnFin.step (g' := (mkF m 88 (Lan3c00_3 p0 p1 p2 p3 b4) [(.int (p2 &&& (127 : Int32))), (.int (2 : Int32)), (.ref b4)])) X6 (fun t k => XS.iand X6.here hx rfl (hb hby at_87) rfl k) ?_
  refine OwnFin.step (g' := (mkF m 89 (Lan3c00_3 p0 p1 p2 p3 b4) [(.int ((p2 &&& (127 : Int32)).toInt8.toInt32)), (.int (2 : Int32)), (.ref b4)])) X6 (fun t k => XT.i2b X6.here hx rfl (hb hby at_88) rfl k) ?_
  obtain ⟨T7, h7, L7, X7, e7, N7, K7, A7, st7⟩ := own_stB X6 hx hZ e6 N6 (G := (Gn3c00_74 p0 p1)) B6 g_b4 (j := (2 : Int32)) (x := ((p2 &&& (127 : Int32)).toInt8.toInt32)) (by decide) (g := (mkF m 89 (Lan3c00_3 p0 p1 p2 p3 b4) [(.int ((p2 &&& (127 : Int32)).toInt8.toInt32)), (.int (2 : Int32)), (.ref b4)])) rfl rfl (hb hby at_89)
  have B7 : Ary Z h7 b4 .byte 3 (fun i => .int ((Gn3c00_89 p0 p1 p2) i)) := A7
  have Z7 := Nat.le_trans Z6 K7.1
  refine OwnFin.step (g' := (mkF m 90 (Lan3c00_3 p0 p1 p2 p3 b4) [])) X7 (fun t k => st7 _ k) ?_
  obtain ⟨T8, h8, X8, e8, E8, A8, D8, -, st8⟩ := newO X7 hx hZ hown (hw _ (wm 1 rfl)) (hw _ (wm 2 rfl)) (hw _ (wm 3 rfl)) e7 (g := (mkF m 90 (Lan3c00_3 p0 p1 p2 p3 b4) [])) rfl (hb hby at_90) (by decide) (by decide)
  obtain ⟨b8, y8⟩ : ∃ z, z = h7.size := ⟨_, rfl⟩
  rw [← y8] at A8 D8 st8
  have K8 := keep_ext E8
  have ne_b4_b8 : b4 ≠ b8 := Ary.neS B7 y8
  have g_b8 : n0 ≤ b8 := by rw [y8]; exact Z7
  have Z8 := Nat.le_trans Z7 K8.1
  have F8_record : Fld Z h8 b8 "com/example/faden/faden/rank/RecordReader" "record" "[B" .null := D8 (Or.inr (hw _ (wm 11 rfl))) (ty := (.array .byte)) (by decide)
  have F8_at : Fld Z h8 b8 "com/example/faden/faden/rank/RecordReader" "at" "I" (.int (0 : Int32)) := D8 (Or.inl (hw _ (wm 18 rfl))) (ty := .int) (by decide)
  refine OwnFin.step (g' := (mkF m 93 (Lan3c00_3 p0 p1 p2 p3 b4) [(.ref b8)])) X8 (fun t k => st8 _ k) ?_
  refine OwnFin.step (g' := (mkF m 94 (Lan3c00_3 p0 p1 p2 p3 b4) [(.ref b8), (.ref b8)])) X8 (fun t k => XS.dup X8.here hx rfl (hb hby at_93) rfl rfl k) ?_
  refine OwnFin.step (g' := (mkF m 96 (Lan3c00_3 p0 p1 p2 p3 b4) [(.ref b4), (.ref b8), (.ref b8)])) X8 (fun t k => XS.aload X8.here hx rfl (hb hby at_94) rfl rfl k) ?_
  obtain ⟨_, T9, L9, X9, ⟨rfl, N9q, u10, u11, u12, u13⟩, st9⟩ := own_callI X8 hx hZ (y := (⟨"com/example/faden/faden/rank/RecordReader", "<init>", "([B)V"⟩ : MethodName)) (W := 1) (a := b8) (argsL := [(.ref b4)]) (rest := [(.ref b8)]) rfl hown (hw _ (wm 4 rfl)) (hw _ (wm 5 rfl)) (hw _ (wm 3 rfl)) (hw _ (wm 6 rfl)) (by decide) (rm1 l Z a0 hw [] b8 b4 h8 n0 Z8 A8 g_b8 F8_record F8_at) (by decide) (by decide) (by decide) (by decide) e8 (g := (mkF m 96 (Lan3c00_3 p0 p1 p2 p3 b4) [(.ref b4), (.ref b8), (.ref b8)])) rfl (by rw [hml]; rfl) pd_0 rfl rfl (by show 2 * 0 + _ ≤ _; exact Nat.le_of_eq rfl) (hb hby at_96)
  have N9 := Fr.app N7 N9q
  obtain ⟨h9, e9⟩ : ∃ z, T9.heap = z := ⟨_, rfl⟩
  rw [e9] at u10 u11 u12 u13
  have K9 := u10
  have Z9 := Nat.le_trans Z8 K9.1
  refine OwnFin.step (g' := (mkF m 99 (Lan3c00_3 p0 p1 p2 p3 b4) [(.ref b8)])) X9 (fun t k => st9 _ k) ?_
  refine OwnFin.step (g' := (mkF m 101 (Lan3c00_4 p0 p1 p2 p3 b4 b8) [])) X9 (fun t k => XS.astore X9.here hx rfl (hb hby at_99) rfl rfl (l' := (Lan3c00_4 p0 p1 p2 p3 b4 b8)) rfl k) ?_
  refine OwnFin.step (g' := (mkF m 103 (Lan3c00_4 p0 p1 p2 p3 b4 b8) [(.ref b8)])) X9 (fun t k => XS.aload X9.here hx rfl (hb hby at_101) rfl rfl k) ?_
  have A15 := ((B7.keep K8 nin0).keep K9 (ninS ne_b4_b8 nin0))
  obtain ⟨_, T14, L14, X14, ⟨rfl, N14q, u16⟩, st14⟩ := own_callV X9 hx hZ (y := (⟨"com/example/faden/faden/rank/RecordReader", "atEnd", "()Z"⟩ : MethodName)) (W := 0) (a := b8) (argsL := []) (rest := []) hown (hw _ (wm 12 rfl)) (hw _ (wm 13 rfl)) (hw _ (wm 15 rfl)) (hw _ (wm 14 rfl)) (hw _ (wm 3 rfl)) (hw _ (wm 16 rfl)) (by decide) u11 (rm3 l Z a0 hw [] b8 3 (Gn3c00_89 p0 p1 p2) b4 (0 : Int32) h9 n0 Z9 u11 g_b8 u12 u13 A15 (Ne.symm ne_b4_b8)) (by decide) (by decide) (by decide) (by decide) e9 (g := (mkF m 103 (Lan3c00_4 p0 p1 p2 p3 b4 b8) [(.ref b8)])) rfl (by rw [hml]; rfl) pd_1 rfl rfl (by show 2 * 0 + _ ≤ _; exact Nat.le_of_eq rfl) (hb hby at_103)
  have N14 := Fr.app N9 N14q
  obtain ⟨h14, e14⟩ : ∃ z, T14.heap = z := ⟨_, rfl⟩
  rw [e14] at u16
  have K14 := u16
  have Z14 := Nat.le_trans Z9 K14.1
  rw [show (nar .boolean (v3_17 (0 : Int32) 3)) = (0 : Int32) from by decide] at st14
  refine OwnFin.step (g' := (mkF m 106 (Lan3c00_4 p0 p1 p2 p3 b4 b8) [(.int (0 : Int32))])) X14 (fun t k => st14 _ k) ?_
  refine OwnFin.step (g' := (mkF m 108 (Lan3c00_4 p0 p1 p2 p3 b4 b8) [(.int (3 : Int32)), (.int (0 : Int32))])) X14 (fun t k => XS.iload X14.here hx rfl (hb hby at_106) rfl k) ?_
  refine OwnFin.step (g' := (mkF m 115 (Lan3c00_4 p0 p1 p2 p3 b4 b8) [(.int (0 : Int32))])) X14 (fun t k => XS.ifYes X14.here hx rfl (pc0 := 108) (pc' := 115) rfl (hb hby at_108) rfl ((if0 _ _).trans (feq (by decide)).2) (by decide) (by decide) k) ?_
  refine OwnFin.step (g' := (mkF m 116 (Lan3c00_4 p0 p1 p2 p3 b4 b8) [(.int (0 : Int32)), (.int (0 : Int32))])) X14 (fun t k => XS.iconst X14.here hx rfl (hb hby at_115) k) ?_
  refine OwnFin.step (g' := (mkF m 119 (Lan3c00_4 p0 p1 p2 p3 b4 b8) [])) X14 (fun t k => XS.icmpNo X14.here hx rfl (hb hby at_116) rfl (teq (by decide)).2 k) ?_
  refine OwnFin.step (g' := (mkF m 120 (Lan3c00_4 p0 p1 p2 p3 b4 b8) [(.int (1 : Int32))])) X14 (fun t k => XS.iconst X14.here hx rfl (hb hby at_119) k) ?_
  refine OwnFin.step (g' := (mkF m 124 (Lan3c00_4 p0 p1 p2 p3 b4 b8) [(.int (1 : Int32))])) X14 (fun t k => XS.goto X14.here hx rfl (pc0 := 120) (pc' := 124) rfl (hb hby at_120) (by decide) (by decide) k) ?_
  refine OwnFin.step (g' := (mkF m 126 (Lan3c00_5 p0 p1 p2 p3 b4 b8) [])) X14 (fun t k => XS.istore X14.here hx rfl (hb hby at_124) rfl (l' := (Lan3c00_5 p0 p1 p2 p3 b4 b8)) rfl k) ?_
  refine OwnFin.step (g' := (mkF m 127 (Lan3c00_5 p0 p1 p2 p3 b4 b8) [(.int (0 : Int32))])) X14 (fun t k => XS.iconst X14.here hx rfl (hb hby at_126) k) ?_
  refine OwnFin.step (g' := (mkF m 129 (Lan3c00_6 p0 p1 p2 p3 b4 b8) [])) X14 (fun t k => XS.istore X14.here hx rfl (hb hby at_127) rfl (l' := (Lan3c00_6 p0 p1 p2 p3 b4 b8)) rfl k) ?_
  refine OwnFin.step (g' := (mkF m 131 (Lan3c00_6 p0 p1 p2 p3 b4 b8) [(.int (3 : Int32))])) X14 (fun t k => XS.iload X14.here hx rfl (hb hby at_129) rfl k) ?_
  refine OwnFin.step (g' := (mkF m 132 (Lan3c00_6 p0 p1 p2 p3 b4 b8) [(.int (1 : Int32)), (.int (3 : Int32))])) X14 (fun t k => XS.iconst X14.here hx rfl (hb hby at_131) k) ?_
  refine OwnFin.step (g' := (mkF m 135 (Lan3c00_6 p0 p1 p2 p3 b4 b8) [])) X14 (fun t k => XS.icmpNo X14.here hx rfl (hb hby at_132) rfl (flt (by decide)).1 k) ?_
  refine OwnFin.step (g' := (mkF m 137 (Lan3c00_6 p0 p1 p2 p3 b4 b8) [(.ref b8)])) X14 (fun t k => XS.aload X14.here hx rfl (hb hby at_135) rfl rfl k) ?_
  have E18 := (Exa.keep u11 K14)
  have F19 := (u12.keep K14 nin0)
  have F20 := (u13.keep K14 nin0)
  have A21 := (A15.keep K14 nin0)
  obtain ⟨_, T17, L17, X17, ⟨rfl, N17q, u22, u23, u24, u25⟩, st17⟩ := own_callV X14 hx hZ (y := (⟨"com/example/faden/faden/rank/RecordReader", "number", "()I"⟩ : MethodName)) (W := 0) (a := b8) (argsL := []) (rest := []) hown (hw _ (wm 19 rfl)) (hw _ (wm 20 rfl)) (hw _ (wm 22 rfl)) (hw _ (wm 21 rfl)) (hw _ (wm 3 rfl)) (hw _ (wm 23 rfl)) (by decide) E18 (rm4a0k1 l Z a0 hw [] b8 3 (Gn3c00_89 p0 p1 p2) b4 h14 n0 Z14 E18 g_b8 F19 F20 A21 (Ne.symm ne_b4_b8) (exhlnn3c00_137 p3 hn hm) (exhb0n3c00_137 p0 p1 p2 p3 hn hm)) (by decide) (by decide) (by decide) (by decide) e14 (g := (mkF m 137 (Lan3c00_6 p0 p1 p2 p3 b4 b8) [(.ref b8)])) rfl (by rw [hml]; rfl) pd_2 rfl rfl (by show 2 * 0 + _ ≤ _; exact Nat.le_of_eq rfl) (hb hby at_137)
  have N17 := Fr.app N14 N17q
  obtain ⟨h17, e17⟩ : ∃ z, T17.heap = z := ⟨_, rfl⟩
  rw [e17] at u22 u23 u24 u25
  have K17 := u22
  have Z17 := Nat.le_trans Z14 K17.1
  refine OwnFin.step (g' := (mkF m 140 (Lan3c00_6 p0 p1 p2 p3 b4 b8) [(.int (va0k14_77 (Gn3c00_89 p0 p1 p2)))])) X17 (fun t k => st17 _ k) ?_
  refine OwnFin.step (g' := (mkF m 141 (Lan3c00_6 p0 p1 p2 p3 b4 b8) [])) X17 (fun t k => XT.pop X17.here hx rfl (hb hby at_140) rfl rfl k) ?_
  refine OwnFin.step (g' := (mkF m 143 (Lan3c00_6 p0 p1 p2 p3 b4 b8) [(.int (0 : Int32))])) X17 (fun t k => XS.iload X17.here hx rfl (hb hby at_141) rfl k) ?_
  refine OwnFin.step (g' := (mkF m 145 (Lan3c00_6 p0 p1 p2 p3 b4 b8) [(.int (0 : Int32)), (.int (0 : Int32))])) X17 (fun t k => XS.iload X17.here hx rfl (hb hby at_143) rfl k) ?_
  refine OwnFin.step (g' := (mkF m 152 (Lan3c00_6 p0 p1 p2 p3 b4 b8) [(.int (0 : Int32))])) X17 (fun t k => XS.ifYes X17.here hx rfl (pc0 := 145) (pc' := 152) rfl (hb hby at_145) rfl ((if0 _ _).trans (teq (by decide)).1) (by decide) (by decide) k) ?_
  refine OwnFin.step (g' := (mkF m 153 (Lan3c00_6 p0 p1 p2 p3 b4 b8) [(.int (1 : Int32)), (.int (0 : Int32))])) X17 (fun t k => XS.iconst X17.here hx rfl (hb hby at_152) k) ?_
  refine OwnFin.step (g' := (mkF m 154 (Lan3c00_6 p0 p1 p2 p3 b4 b8) [(.int (1 : Int32))])) X17 (fun t k => XS.iadd X17.here hx rfl (hb hby at_153) rfl k) ?_
  refine OwnFin.step (g' := (mkF m 156 (Lan3c00_7 p0 p1 p2 p3 b4 b8) [])) X17 (fun t k => XS.istore X17.here hx rfl (hb hby at_154) rfl (l' := (Lan3c00_7 p0 p1 p2 p3 b4 b8)) rfl k) ?_
  refine OwnFin.step (g' := (mkF m 158 (Lan3c00_7 p0 p1 p2 p3 b4 b8) [(.int (1 : Int32))])) X17 (fun t k => XS.iload X17.here hx rfl (hb hby at_156) rfl k) ?_
  refine OwnFin.step (g' := (mkF m 161 (Lan3c00_7 p0 p1 p2 p3 b4 b8) [])) X17 (fun t k => XS.ifNo X17.here hx rfl (hb hby at_158) rfl ((if0 _ _).trans (feq (by decide)).1) k) ?_
  refine OwnFin.step (g' := (mkF m 163 (Lan3c00_7 p0 p1 p2 p3 b4 b8) [(.ref b8)])) X17 (fun t k => XS.aload X17.here hx rfl (hb hby at_161) rfl rfl k) ?_
  have A27 := (A21.keep K17 (ninS ne_b4_b8 nin0))
  obtain ⟨_, T26, L26, X26, ⟨rfl, N26q, u28⟩, st26⟩ := own_callV X17 hx hZ (y := (⟨"com/example/faden/faden/rank/RecordReader", "atEnd", "()Z"⟩ : MethodName)) (W := 0) (a := b8) (argsL := []) (rest := []) hown (hw _ (wm 12 rfl)) (hw _ (wm 13 rfl)) (hw _ (wm 15 rfl)) (hw _ (wm 14 rfl)) (hw _ (wm 3 rfl)) (hw _ (wm 16 rfl)) (by decide) u23 (rm3 l Z a0 hw [] b8 3 (Gn3c00_89 p0 p1 p2) b4 (1 : Int32) h17 n0 Z17 u23 g_b8 u24 u25 A27 (Ne.symm ne_b4_b8)) (by decide) (by decide) (by decide) (by decide) e17 (g := (mkF m 163 (Lan3c00_7 p0 p1 p2 p3 b4 b8) [(.ref b8)])) rfl (by rw [hml]; rfl) pd_1 rfl rfl (by show 2 * 0 + _ ≤ _; exact Nat.le_of_eq rfl) (hb hby at_163)
  have N26 := Fr.app N17 N26q
  obtain ⟨h26, e26⟩ : ∃ z, T26.heap = z := ⟨_, rfl⟩
  rw [e26] at u28
  have K26 := u28
  have Z26 := Nat.le_trans Z17 K26.1
  rw [show (nar .boolean (v3_17 (1 : Int32) 3)) = (0 : Int32) from by decide] at st26
  refine OwnFin.step (g' := (mkF m 166 (Lan3c00_7 p0 p1 p2 p3 b4 b8) [(.int (0 : Int32))])) X26 (fun t k => st26 _ k) ?_
  refine OwnFin.step (g' := (mkF m 168 (Lan3c00_7 p0 p1 p2 p3 b4 b8) [(.int (1 : Int32)), (.int (0 : Int32))])) X26 (fun t k => XS.iload X26.here hx rfl (hb hby at_166) rfl k) ?_
  refine OwnFin.step (g' := (mkF m 170 (Lan3c00_7 p0 p1 p2 p3 b4 b8) [(.int (3 : Int32)), (.int (1 : Int32)), (.int (0 : Int32))])) X26 (fun t k => XS.iload X26.here hx rfl (hb hby at_168) rfl k) ?_
  refine OwnFin.step (g' := (mkF m 177 (Lan3c00_7 p0 p1 p2 p3 b4 b8) [(.int (0 : Int32))])) X26 (fun t k => XS.icmpYes X26.here hx rfl (pc0 := 170) (pc' := 177) rfl (hb hby at_170) rfl (feq (by decide)).2 (by decide) (by decide) k) ?_
  refine OwnFin.step (g' := (mkF m 178 (Lan3c00_7 p0 p1 p2 p3 b4 b8) [(.int (0 : Int32)), (.int (0 : Int32))])) X26 (fun t k => XS.iconst X26.here hx rfl (hb hby at_177) k) ?_
  refine OwnFin.step (g' := (mkF m 181 (Lan3c00_7 p0 p1 p2 p3 b4 b8) [])) X26 (fun t k => XS.icmpNo X26.here hx rfl (hb hby at_178) rfl (teq (by decide)).2 k) ?_
  refine OwnFin.step (g' := (mkF m 182 (Lan3c00_7 p0 p1 p2 p3 b4 b8) [(.int (1 : Int32))])) X26 (fun t k => XS.iconst X26.here hx rfl (hb hby at_181) k) ?_
  refine OwnFin.step (g' := (mkF m 186 (Lan3c00_7 p0 p1 p2 p3 b4 b8) [(.int (1 : Int32))])) X26 (fun t k => XS.goto X26.here hx rfl (pc0 := 182) (pc' := 186) rfl (hb hby at_182) (by decide) (by decide) k) ?_
  refine OwnFin.step (g' := (mkF m 188 (Lan3c00_7 p0 p1 p2 p3 b4 b8) [])) X26 (fun t k => XS.istore X26.here hx rfl (hb hby at_186) rfl (l' := (Lan3c00_7 p0 p1 p2 p3 b4 b8)) rfl k) ?_
  refine OwnFin.step (g' := (mkF m 190 (Lan3c00_7 p0 p1 p2 p3 b4 b8) [(.int (1 : Int32))])) X26 (fun t k => XS.iload X26.here hx rfl (hb hby at_188) rfl k) ?_
  refine OwnFin.step (g' := (mkF m 192 (Lan3c00_7 p0 p1 p2 p3 b4 b8) [(.int (3 : Int32)), (.int (1 : Int32))])) X26 (fun t k => XS.iload X26.here hx rfl (hb hby at_190) rfl k) ?_
  refine OwnFin.step (g' := (mkF m 195 (Lan3c00_7 p0 p1 p2 p3 b4 b8) [])) X26 (fun t k => XS.icmpNo X26.here hx rfl (hb hby at_192) rfl (tlt (by decide)).2.1 k) ?_
  refine OwnFin.step (g' := (mkF m 197 (Lan3c00_7 p0 p1 p2 p3 b4 b8) [(.ref b8)])) X26 (fun t k => XS.aload X26.here hx rfl (hb hby at_195) rfl rfl k) ?_
  have E30 := (Exa.keep u23 K26)
  have F31 := (u24.keep K26 nin0)
  have F32 := (u25.keep K26 nin0)
  have A33 := (A27.keep K26 nin0)
  obtain ⟨_, T29, L29, X29, ⟨rfl, N29q, u34, u35, u36, u37⟩, st29⟩ := own_callV X26 hx hZ (y := (⟨"com/example/faden/faden/rank/RecordReader", "number", "()I"⟩ : MethodName)) (W := 0) (a := b8) (argsL := []) (rest := []) hown (hw _ (wm 19 rfl)) (hw _ (wm 20 rfl)) (hw _ (wm 22 rfl)) (hw _ (wm 21 rfl)) (hw _ (wm 3 rfl)) (hw _ (wm 23 rfl)) (by decide) E30 (rm4a1k1 l Z a0 hw [] b8 3 (Gn3c00_89 p0 p1 p2) b4 h26 n0 Z26 E30 g_b8 F31 F32 A33 (Ne.symm ne_b4_b8) (exhlnn3c00_197 p3 hn hm) (exhb0n3c00_197 p0 p1 p2 p3 hn hm)) (by decide) (by decide) (by decide) (by decide) e26 (g := (mkF m 197 (Lan3c00_7 p0 p1 p2 p3 b4 b8) [(.ref b8)])) rfl (by rw [hml]; rfl) pd_2 rfl rfl (by show 2 * 0 + _ ≤ _; exact Nat.le_of_eq rfl) (hb hby at_197)
  have N29 := Fr.app N26 N29q
  obtain ⟨h29, e29⟩ : ∃ z, T29.heap = z := ⟨_, rfl⟩
  rw [e29] at u34 u35 u36 u37
  have K29 := u34
  have Z29 := Nat.le_trans Z26 K29.1
  refine OwnFin.step (g' := (mkF m 200 (Lan3c00_7 p0 p1 p2 p3 b4 b8) [(.int (va1k14_77 (Gn3c00_89 p0 p1 p2)))])) X29 (fun t k => st29 _ k) ?_
  refine OwnFin.step (g' := (mkF m 201 (Lan3c00_7 p0 p1 p2 p3 b4 b8) [])) X29 (fun t k => XT.pop X29.here hx rfl (hb hby at_200) rfl rfl k) ?_
  refine OwnFin.step (g' := (mkF m 203 (Lan3c00_7 p0 p1 p2 p3 b4 b8) [(.int (1 : Int32))])) X29 (fun t k => XS.iload X29.here hx rfl (hb hby at_201) rfl k) ?_
  refine OwnFin.step (g' := (mkF m 204 (Lan3c00_7 p0 p1 p2 p3 b4 b8) [(.int (1 : Int32)), (.int (1 : Int32))])) X29 (fun t k => XS.iconst X29.here hx rfl (hb hby at_203) k) ?_
  refine OwnFin.step (g' := (mkF m 205 (Lan3c00_7 p0 p1 p2 p3 b4 b8) [(.int (2 : Int32))])) X29 (fun t k => XS.iadd X29.here hx rfl (hb hby at_204) rfl k) ?_
  refine OwnFin.step (g' := (mkF m 207 (Lan3c00_8 p0 p1 p2 p3 b4 b8) [])) X29 (fun t k => XS.istore X29.here hx rfl (hb hby at_205) rfl (l' := (Lan3c00_8 p0 p1 p2 p3 b4 b8)) rfl k) ?_
  refine OwnFin.step (g' := (mkF m 209 (Lan3c00_8 p0 p1 p2 p3 b4 b8) [(.int (1 : Int32))])) X29 (fun t k => XS.iload X29.here hx rfl (hb hby at_207) rfl k) ?_
  refine OwnFin.step (g' := (mkF m 212 (Lan3c00_8 p0 p1 p2 p3 b4 b8) [])) X29 (fun t k => XS.ifNo X29.here hx rfl (hb hby at_209) rfl ((if0 _ _).trans (feq (by decide)).1) k) ?_
  refine OwnFin.step (g' := (mkF m 214 (Lan3c00_8 p0 p1 p2 p3 b4 b8) [(.ref b8)])) X29 (fun t k => XS.aload X29.here hx rfl (hb hby at_212) rfl rfl k) ?_
  have A39 := (A33.keep K29 (ninS ne_b4_b8 nin0))
  obtain ⟨_, T38, L38, X38, ⟨rfl, N38q, u40⟩, st38⟩ := own_callV X29 hx hZ (y := (⟨"com/example/faden/faden/rank/RecordReader", "atEnd", "()Z"⟩ : MethodName)) (W := 0) (a := b8) (argsL := []) (rest := []) hown (hw _ (wm 12 rfl)) (hw _ (wm 13 rfl)) (hw _ (wm 15 rfl)) (hw _ (wm 14 rfl)) (hw _ (wm 3 rfl)) (hw _ (wm 16 rfl)) (by decide) u35 (rm3 l Z a0 hw [] b8 3 (Gn3c00_89 p0 p1 p2) b4 (2 : Int32) h29 n0 Z29 u35 g_b8 u36 u37 A39 (Ne.symm ne_b4_b8)) (by decide) (by decide) (by decide) (by decide) e29 (g := (mkF m 214 (Lan3c00_8 p0 p1 p2 p3 b4 b8) [(.ref b8)])) rfl (by rw [hml]; rfl) pd_1 rfl rfl (by show 2 * 0 + _ ≤ _; exact Nat.le_of_eq rfl) (hb hby at_214)
  have N38 := Fr.app N29 N38q
  obtain ⟨h38, e38⟩ : ∃ z, T38.heap = z := ⟨_, rfl⟩
  rw [e38] at u40
  have K38 := u40
  have Z38 := Nat.le_trans Z29 K38.1
  rw [show (nar .boolean (v3_17 (2 : Int32) 3)) = (0 : Int32) from by decide] at st38
  refine OwnFin.step (g' := (mkF m 217 (Lan3c00_8 p0 p1 p2 p3 b4 b8) [(.int (0 : Int32))])) X38 (fun t k => st38 _ k) ?_
  refine OwnFin.step (g' := (mkF m 219 (Lan3c00_8 p0 p1 p2 p3 b4 b8) [(.int (2 : Int32)), (.int (0 : Int32))])) X38 (fun t k => XS.iload X38.here hx rfl (hb hby at_217) rfl k) ?_
  refine OwnFin.step (g' := (mkF m 221 (Lan3c00_8 p0 p1 p2 p3 b4 b8) [(.int (3 : Int32)), (.int (2 : Int32)), (.int (0 : Int32))])) X38 (fun t k => XS.iload X38.here hx rfl (hb hby at_219) rfl k) ?_
  refine OwnFin.step (g' := (mkF m 228 (Lan3c00_8 p0 p1 p2 p3 b4 b8) [(.int (0 : Int32))])) X38 (fun t k => XS.icmpYes X38.here hx rfl (pc0 := 221) (pc' := 228) rfl (hb hby at_221) rfl (feq (by decide)).2 (by decide) (by decide) k) ?_
  refine OwnFin.step (g' := (mkF m 229 (Lan3c00_8 p0 p1 p2 p3 b4 b8) [(.int (0 : Int32)), (.int (0 : Int32))])) X38 (fun t k => XS.iconst X38.here hx rfl (hb hby at_228) k) ?_
  refine OwnFin.step (g' := (mkF m 232 (Lan3c00_8 p0 p1 p2 p3 b4 b8) [])) X38 (fun t k => XS.icmpNo X38.here hx rfl (hb hby at_229) rfl (teq (by decide)).2 k) ?_
  refine OwnFin.step (g' := (mkF m 233 (Lan3c00_8 p0 p1 p2 p3 b4 b8) [(.int (1 : Int32))])) X38 (fun t k => XS.iconst X38.here hx rfl (hb hby at_232) k) ?_
  refine OwnFin.step (g' := (mkF m 237 (Lan3c00_8 p0 p1 p2 p3 b4 b8) [(.int (1 : Int32))])) X38 (fun t k => XS.goto X38.here hx rfl (pc0 := 233) (pc' := 237) rfl (hb hby at_233) (by decide) (by decide) k) ?_
  refine OwnFin.step (g' := (mkF m 239 (Lan3c00_8 p0 p1 p2 p3 b4 b8) [])) X38 (fun t k => XS.istore X38.here hx rfl (hb hby at_237) rfl (l' := (Lan3c00_8 p0 p1 p2 p3 b4 b8)) rfl k) ?_
  refine OwnFin.step (g' := (mkF m 241 (Lan3c00_8 p0 p1 p2 p3 b4 b8) [(.int (2 : Int32))])) X38 (fun t k => XS.iload X38.here hx rfl (hb hby at_239) rfl k) ?_
  refine OwnFin.step (g' := (mkF m 243 (Lan3c00_8 p0 p1 p2 p3 b4 b8) [(.int (3 : Int32)), (.int (2 : Int32))])) X38 (fun t k => XS.iload X38.here hx rfl (hb hby at_241) rfl k) ?_
  refine OwnFin.step (g' := (mkF m 246 (Lan3c00_8 p0 p1 p2 p3 b4 b8) [])) X38 (fun t k => XS.icmpNo X38.here hx rfl (hb hby at_243) rfl (tlt (by decide)).2.1 k) ?_
  refine OwnFin.step (g' := (mkF m 248 (Lan3c00_8 p0 p1 p2 p3 b4 b8) [(.ref b8)])) X38 (fun t k => XS.aload X38.here hx rfl (hb hby at_246) rfl rfl k) ?_
  have E42 := (Exa.keep u35 K38)
  have F43 := (u36.keep K38 nin0)
  have F44 := (u37.keep K38 nin0)
  have A45 := (A39.keep K38 nin0)
  obtain ⟨_, T41, L41, X41, ⟨rfl, N41q, u46, u47, u48, u49⟩, st41⟩ := own_callV X38 hx hZ (y := (⟨"com/example/faden/faden/rank/RecordReader", "number", "()I"⟩ : MethodName)) (W := 0) (a := b8) (argsL := []) (rest := []) hown (hw _ (wm 19 rfl)) (hw _ (wm 20 rfl)) (hw _ (wm 22 rfl)) (hw _ (wm 21 rfl)) (hw _ (wm 3 rfl)) (hw _ (wm 23 rfl)) (by decide) E42 (rm4a2k1 l Z a0 hw [] b8 3 (Gn3c00_89 p0 p1 p2) b4 h38 n0 Z38 E42 g_b8 F43 F44 A45 (Ne.symm ne_b4_b8) (exhlnn3c00_248 p3 hn hm) (exhb0n3c00_248 p0 p1 p2 p3 hn hm)) (by decide) (by decide) (by decide) (by decide) e38 (g := (mkF m 248 (Lan3c00_8 p0 p1 p2 p3 b4 b8) [(.ref b8)])) rfl (by rw [hml]; rfl) pd_2 rfl rfl (by show 2 * 0 + _ ≤ _; exact Nat.le_of_eq rfl) (hb hby at_248)
  have N41 := Fr.app N38 N41q
  obtain ⟨h41, e41⟩ : ∃ z, T41.heap = z := ⟨_, rfl⟩
  rw [e41] at u46 u47 u48 u49
  have K41 := u46
  have Z41 := Nat.le_trans Z38 K41.1
  refine OwnFin.step (g' := (mkF m 251 (Lan3c00_8 p0 p1 p2 p3 b4 b8) [(.int (va2k14_77 (Gn3c00_89 p0 p1 p2)))])) X41 (fun t k => st41 _ k) ?_
  refine OwnFin.step (g' := (mkF m 252 (Lan3c00_8 p0 p1 p2 p3 b4 b8) [])) X41 (fun t k => XT.pop X41.here hx rfl (hb hby at_251) rfl rfl k) ?_
  refine OwnFin.step (g' := (mkF m 254 (Lan3c00_8 p0 p1 p2 p3 b4 b8) [(.int (2 : Int32))])) X41 (fun t k => XS.iload X41.here hx rfl (hb hby at_252) rfl k) ?_
  refine OwnFin.step (g' := (mkF m 255 (Lan3c00_8 p0 p1 p2 p3 b4 b8) [(.int (1 : Int32)), (.int (2 : Int32))])) X41 (fun t k => XS.iconst X41.here hx rfl (hb hby at_254) k) ?_
  refine OwnFin.step (g' := (mkF m 256 (Lan3c00_8 p0 p1 p2 p3 b4 b8) [(.int (3 : Int32))])) X41 (fun t k => XS.iadd X41.here hx rfl (hb hby at_255) rfl k) ?_
  refine OwnFin.step (g' := (mkF m 258 (Lan3c00_9 p0 p1 p2 p3 b4 b8) [])) X41 (fun t k => XS.istore X41.here hx rfl (hb hby at_256) rfl (l' := (Lan3c00_9 p0 p1 p2 p3 b4 b8)) rfl k) ?_
  refine OwnFin.step (g' := (mkF m 260 (Lan3c00_9 p0 p1 p2 p3 b4 b8) [(.int (1 : Int32))])) X41 (fun t k => XS.iload X41.here hx rfl (hb hby at_258) rfl k) ?_
  refine OwnFin.step (g' := (mkF m 263 (Lan3c00_9 p0 p1 p2 p3 b4 b8) [])) X41 (fun t k => XS.ifNo X41.here hx rfl (hb hby at_260) rfl ((if0 _ _).trans (feq (by decide)).1) k) ?_
  refine OwnFin.step (g' := (mkF m 265 (Lan3c00_9 p0 p1 p2 p3 b4 b8) [(.ref b8)])) X41 (fun t k => XS.aload X41.here hx rfl (hb hby at_263) rfl rfl k) ?_
  have A51 := (A45.keep K41 (ninS ne_b4_b8 nin0))
  obtain ⟨_, T50, L50, X50, ⟨rfl, N50q, u52⟩, st50⟩ := own_callV X41 hx hZ (y := (⟨"com/example/faden/faden/rank/RecordReader", "atEnd", "()Z"⟩ : MethodName)) (W := 0) (a := b8) (argsL := []) (rest := []) hown (hw _ (wm 12 rfl)) (hw _ (wm 13 rfl)) (hw _ (wm 15 rfl)) (hw _ (wm 14 rfl)) (hw _ (wm 3 rfl)) (hw _ (wm 16 rfl)) (by decide) u47 (rm3 l Z a0 hw [] b8 3 (Gn3c00_89 p0 p1 p2) b4 (3 : Int32) h41 n0 Z41 u47 g_b8 u48 u49 A51 (Ne.symm ne_b4_b8)) (by decide) (by decide) (by decide) (by decide) e41 (g := (mkF m 265 (Lan3c00_9 p0 p1 p2 p3 b4 b8) [(.ref b8)])) rfl (by rw [hml]; rfl) pd_1 rfl rfl (by show 2 * 0 + _ ≤ _; exact Nat.le_of_eq rfl) (hb hby at_265)
  have N50 := Fr.app N41 N50q
  obtain ⟨h50, e50⟩ : ∃ z, T50.heap = z := ⟨_, rfl⟩
  rw [e50] at u52
  have K50 := u52
  have Z50 := Nat.le_trans Z41 K50.1
  rw [show (nar .boolean (v3_17 (3 : Int32) 3)) = (1 : Int32) from by decide] at st50
  refine OwnFin.step (g' := (mkF m 268 (Lan3c00_9 p0 p1 p2 p3 b4 b8) [(.int (1 : Int32))])) X50 (fun t k => st50 _ k) ?_
  refine OwnFin.step (g' := (mkF m 270 (Lan3c00_9 p0 p1 p2 p3 b4 b8) [(.int (3 : Int32)), (.int (1 : Int32))])) X50 (fun t k => XS.iload X50.here hx rfl (hb hby at_268) rfl k) ?_
  refine OwnFin.step (g' := (mkF m 272 (Lan3c00_9 p0 p1 p2 p3 b4 b8) [(.int (3 : Int32)), (.int (3 : Int32)), (.int (1 : Int32))])) X50 (fun t k => XS.iload X50.here hx rfl (hb hby at_270) rfl k) ?_
  refine OwnFin.step (g' := (mkF m 275 (Lan3c00_9 p0 p1 p2 p3 b4 b8) [(.int (1 : Int32))])) X50 (fun t k => XS.icmpNo X50.here hx rfl (hb hby at_272) rfl (teq (by decide)).2 k) ?_
  refine OwnFin.step (g' := (mkF m 276 (Lan3c00_9 p0 p1 p2 p3 b4 b8) [(.int (1 : Int32)), (.int (1 : Int32))])) X50 (fun t k => XS.iconst X50.here hx rfl (hb hby at_275) k) ?_
  refine OwnFin.step (g' := (mkF m 280 (Lan3c00_9 p0 p1 p2 p3 b4 b8) [(.int (1 : Int32)), (.int (1 : Int32))])) X50 (fun t k => XS.goto X50.here hx rfl (pc0 := 276) (pc' := 280) rfl (hb hby at_276) (by decide) (by decide) k) ?_
  refine OwnFin.step (g' := (mkF m 283 (Lan3c00_9 p0 p1 p2 p3 b4 b8) [])) X50 (fun t k => XS.icmpNo X50.here hx rfl (hb hby at_280) rfl (teq (by decide)).2 k) ?_
  refine OwnFin.step (g' := (mkF m 284 (Lan3c00_9 p0 p1 p2 p3 b4 b8) [(.int (1 : Int32))])) X50 (fun t k => XS.iconst X50.here hx rfl (hb hby at_283) k) ?_
  refine OwnFin.step (g' := (mkF m 288 (Lan3c00_9 p0 p1 p2 p3 b4 b8) [(.int (1 : Int32))])) X50 (fun t k => XS.goto X50.here hx rfl (pc0 := 284) (pc' := 288) rfl (hb hby at_284) (by decide) (by decide) k) ?_
  refine OwnFin.step (g' := (mkF m 290 (Lan3c00_9 p0 p1 p2 p3 b4 b8) [])) X50 (fun t k => XS.istore X50.here hx rfl (hb hby at_288) rfl (l' := (Lan3c00_9 p0 p1 p2 p3 b4 b8)) rfl k) ?_
  refine OwnFin.step (g' := (mkF m 292 (Lan3c00_9 p0 p1 p2 p3 b4 b8) [(.int (1 : Int32))])) X50 (fun t k => XS.iload X50.here hx rfl (hb hby at_290) rfl k) ?_
  refine OwnFin.step (g' := (mkF m 295 (Lan3c00_9 p0 p1 p2 p3 b4 b8) [])) X50 (fun t k => XS.ifNo X50.here hx rfl (hb hby at_292) rfl ((if0 _ _).trans (feq (by decide)).1) k) ?_
  refine OwnFin.step (g' := (mkF m 297 (Lan3c00_9 p0 p1 p2 p3 b4 b8) [(.ref b8)])) X50 (fun t k => XS.aload X50.here hx rfl (hb hby at_295) rfl rfl k) ?_
  have E54 := (Exa.keep u47 K50)
  have F55 := (u48.keep K50 nin0)
  have F56 := (u49.keep K50 nin0)
  have A57 := (A51.keep K50 nin0)
  obtain ⟨_, T53, L53, X53, ⟨rfl, N53q, u58⟩, st53⟩ := own_callV X50 hx hZ (y := (⟨"com/example/faden/faden/rank/RecordReader", "atEnd", "()Z"⟩ : MethodName)) (W := 0) (a := b8) (argsL := []) (rest := []) hown (hw _ (wm 12 rfl)) (hw _ (wm 13 rfl)) (hw _ (wm 15 rfl)) (hw _ (wm 14 rfl)) (hw _ (wm 3 rfl)) (hw _ (wm 16 rfl)) (by decide) E54 (rm3 l Z a0 hw [] b8 3 (Gn3c00_89 p0 p1 p2) b4 (3 : Int32) h50 n0 Z50 E54 g_b8 F55 F56 A57 (Ne.symm ne_b4_b8)) (by decide) (by decide) (by decide) (by decide) e50 (g := (mkF m 297 (Lan3c00_9 p0 p1 p2 p3 b4 b8) [(.ref b8)])) rfl (by rw [hml]; rfl) pd_1 rfl rfl (by show 2 * 0 + _ ≤ _; exact Nat.le_of_eq rfl) (hb hby at_297)
  have N53 := Fr.app N50 N53q
  obtain ⟨h53, e53⟩ : ∃ z, T53.heap = z := ⟨_, rfl⟩
  rw [e53] at u58
  have K53 := u58
  have Z53 := Nat.le_trans Z50 K53.1
  rw [show (nar .boolean (v3_17 (3 : Int32) 3)) = (1 : Int32) from by decide] at st53
  refine OwnFin.step (g' := (mkF m 300 (Lan3c00_9 p0 p1 p2 p3 b4 b8) [(.int (1 : Int32))])) X53 (fun t k => st53 _ k) ?_
  refine OwnFin.step (g' := (mkF m 303 (Lan3c00_9 p0 p1 p2 p3 b4 b8) [])) X53 (fun t k => XS.ifNo X53.here hx rfl (hb hby at_300) rfl ((if0 _ _).trans (feq (by decide)).1) k) ?_
  refine OwnFin.step (g' := (mkF m 304 (Lan3c00_9 p0 p1 p2 p3 b4 b8) [(.int (1 : Int32))])) X53 (fun t k => XS.iconst X53.here hx rfl (hb hby at_303) k) ?_
  refine OwnFin.step (g' := (mkF m 308 (Lan3c00_9 p0 p1 p2 p3 b4 b8) [(.int (1 : Int32))])) X53 (fun t k => XS.goto X53.here hx rfl (pc0 := 304) (pc' := 308) rfl (hb hby at_304) (by decide) (by decide) k) ?_
  refine OwnFin.step (g' := (mkF m 310 (Lan3c00_9 p0 p1 p2 p3 b4 b8) [])) X53 (fun t k => XS.istore X53.here hx rfl (hb hby at_308) rfl (l' := (Lan3c00_9 p0 p1 p2 p3 b4 b8)) rfl k) ?_
  refine OwnFin.step (g' := (mkF m 312 (Lan3c00_9 p0 p1 p2 p3 b4 b8) [(.int (1 : Int32))])) X53 (fun t k => XS.iload X53.here hx rfl (hb hby at_310) rfl k) ?_
  refine OwnFin.retNar X53 (by simp) (hb hby at_312) (by decide) (by decide) ?_
  exact ⟨rfl, N53⟩
set_option maxRecDepth 65536 in
set_option maxHeartbeats 40000000 in
theorem rm0n3c0 (l : Launch) (Z : State) (a0 : Array Value) (hw : ∀ d ∈ tables_1, d.before a0 Z = true) (ws : List Jvm.Cond) (p0 : Int32) (p1 : Int32) (p2 : Int32) (p3 : Int32) (h0 : Heap) (n0 : Nat) (Z0 : n0 ≤ h0.size) (hn : vn3c00_3 p3 = (3 : Int32)) (hm : vn3c00_22 p3 = (0 : Int32)) :
    MetFree l x (head1 (Jvm.Cond.code x code maxLocals ret :: ws) room_1) (fun a U => a = #[(.int p0), (.int p1), (.int p2), (.int p3)] ∧ Z.Warmed39 U.vm ∧ U.heap = h0) (fun _ _ _ _ _ => True) (fun _ U o U' => ∃ v L, o = .returned v ∧ (LQ n0) v U'.heap L ∧ FrameEnd U o U' L room_1.cells room_1.slots) :=
  own_met (ret := ret) (Q := (LQ n0)) (plainFor_of_name pn_0) (fun m => ef_0 m p0 p1 p2 p3) (fun p e s m below meth c s₁ X hx hby hml hown hnm hZ e0 => j0n3c0 X hx hZ hw hby hml hown hnm e0 (Fr.nil n0) Z0 p0 p1 p2 p3 hn hm)
def vn3c10_3 (p3 : Int32) : Int32 := (p3 &&& (3 : Int32))
def vn3c10_22 (p3 : Int32) : Int32 := (if (p3 &&& (4 : Int32)) = (0 : Int32) then (0 : Int32) else (1 : Int32))
def Gn3c10_59 (p0 : Int32) : Nat → Int32 := (updN (fun _ => (0 : Int32)) ((0 : Int32)).toNatClampNeg (nar .byte (((128 : Int32) ||| (p0 &&& (127 : Int32))).toInt8.toInt32)))
def Gn3c10_74 (p0 : Int32) (p1 : Int32) : Nat → Int32 := (updN (Gn3c10_59 p0) ((1 : Int32)).toNatClampNeg (nar .byte ((p1 &&& (127 : Int32)).toInt8.toInt32)))
def Gn3c10_89 (p0 : Int32) (p1 : Int32) (p2 : Int32) : Nat → Int32 := (updN (Gn3c10_74 p0 p1) ((2 : Int32)).toNatClampNeg (nar .byte ((p2 &&& (127 : Int32)).toInt8.toInt32)))
theorem exhlnn3c10_137 (p3 : Int32) (hn : vn3c10_3 p3 = (3 : Int32)) (hm : vn3c10_22 p3 = (1 : Int32)) : 2 ≤ 3 ∧ 3 < 100 := by decide
theorem exhb0n3c10_137 (p0 : Int32) (p1 : Int32) (p2 : Int32) (p3 : Int32) (hn : vn3c10_3 p3 = (3 : Int32)) (hm : vn3c10_22 p3 = (1 : Int32)) : 128 ≤ (((Gn3c10_89 p0 p1 p2) 0) &&& 255).toInt := by
  have b := own_b127 p0
  have h : (((Gn3c10_89 p0 p1 p2) 0) &&& 255).toInt = (p0 &&& 127).toInt + 128 := own_hi' b
  omega
theorem exhb1n3c10_137 (p0 : Int32) (p1 : Int32) (p2 : Int32) (p3 : Int32) (hn : vn3c10_3 p3 = (3 : Int32)) (hm : vn3c10_22 p3 = (1 : Int32)) : (((Gn3c10_89 p0 p1 p2) 1) &&& 255).toInt < 128 := by
  have b := own_b127 p1
  have h : (((Gn3c10_89 p0 p1 p2) 1) &&& 255).toInt = (p1 &&& 127).toInt := own_lo b
  omega
theorem exhlnn3c10_197 (p3 : Int32) (hn : vn3c10_3 p3 = (3 : Int32)) (hm : vn3c10_22 p3 = (1 : Int32)) : 3 ≤ 3 ∧ 3 < 100 := by decide
theorem exhb0n3c10_197 (p0 : Int32) (p1 : Int32) (p2 : Int32) (p3 : Int32) (hn : vn3c10_3 p3 = (3 : Int32)) (hm : vn3c10_22 p3 = (1 : Int32)) : (((Gn3c10_89 p0 p1 p2) 2) &&& 255).toInt < 128 := by
  have b := own_b127 p2
  have h : (((Gn3c10_89 p0 p1 p2) 2) &&& 255).toInt = (p2 &&& 127).toInt := own_lo b
  omega
abbrev Lan3c10_0 (p0 : Int32) (p1 : Int32) (p2 : Int32) (p3 : Int32) : Array Slot := #[.val (.int p0), .val (.int p1), .val (.int p2), .val (.int p3), .unset, .unset, .unset, .unset, .unset, .unset]
abbrev Lan3c10_1 (p0 : Int32) (p1 : Int32) (p2 : Int32) (p3 : Int32) : Array Slot := #[.val (.int p0), .val (.int p1), .val (.int p2), .val (.int p3), .val (.int (3 : Int32)), .unset, .unset, .unset, .unset, .unset]
abbrev Lan3c10_2 (p0 : Int32) (p1 : Int32) (p2 : Int32) (p3 : Int32) : Array Slot := #[.val (.int p0), .val (.int p1), .val (.int p2), .val (.int p3), .val (.int (3 : Int32)), .val (.int (1 : Int32)), .unset, .unset, .unset, .unset]
abbrev Lan3c10_3 (p0 : Int32) (p1 : Int32) (p2 : Int32) (p3 : Int32) (b4 : Addr) : Array Slot := #[.val (.int p0), .val (.int p1), .val (.int p2), .val (.int p3), .val (.int (3 : Int32)), .val (.int (1 : Int32)), .val (.ref b4), .unset, .unset, .unset]
abbrev Lan3c10_4 (p0 : Int32) (p1 : Int32) (p2 : Int32) (p3 : Int32) (b4 : Addr) (b8 : Addr) : Array Slot := #[.val (.int p0), .val (.int p1), .val (.int p2), .val (.int p3), .val (.int (3 : Int32)), .val (.int (1 : Int32)), .val (.ref b4), .val (.ref b8), .unset, .unset]
abbrev Lan3c10_5 (p0 : Int32) (p1 : Int32) (p2 : Int32) (p3 : Int32) (b4 : Addr) (b8 : Addr) : Array Slot := #[.val (.int p0), .val (.int p1), .val (.int p2), .val (.int p3), .val (.int (3 : Int32)), .val (.int (1 : Int32)), .val (.ref b4), .val (.ref b8), .val (.int (1 : Int32)), .unset]
abbrev Lan3c10_6 (p0 : Int32) (p1 : Int32) (p2 : Int32) (p3 : Int32) (b4 : Addr) (b8 : Addr) : Array Slot := #[.val (.int p0), .val (.int p1), .val (.int p2), .val (.int p3), .val (.int (3 : Int32)), .val (.int (1 : Int32)), .val (.ref b4), .val (.ref b8), .val (.int (1 : Int32)), .val (.int (0 : Int32))]
abbrev Lan3c10_7 (p0 : Int32) (p1 : Int32) (p2 : Int32) (p3 : Int32) (b4 : Addr) (b8 : Addr) : Array Slot := #[.val (.int p0), .val (.int p1), .val (.int p2), .val (.int p3), .val (.int (3 : Int32)), .val (.int (1 : Int32)), .val (.ref b4), .val (.ref b8), .val (.int (1 : Int32)), .val (.int (2 : Int32))]
abbrev Lan3c10_8 (p0 : Int32) (p1 : Int32) (p2 : Int32) (p3 : Int32) (b4 : Addr) (b8 : Addr) : Array Slot := #[.val (.int p0), .val (.int p1), .val (.int p2), .val (.int p3), .val (.int (3 : Int32)), .val (.int (1 : Int32)), .val (.ref b4), .val (.ref b8), .val (.int (1 : Int32)), .val (.int (3 : Int32))]
set_option maxRecDepth 65536 in
set_option maxHeartbeats 40000000 in
theorem j0n3c1 {p : Program} {l : Launch} {e : Env} {s : State} {m : MethodId} {args : Array Value} {below : List Frame} {meth : Method} {c : Code} {T0 : State} {locs : List Loc} {Z : State} {a0 : Array Value} {h0 : Heap} {n0 : Nat}
    (X0 : Stand p l e room_1 s m args below meth c T0 locs 0 0) (hx : p.tables.exec = Jvm.exec) (hZ : Z.Warmed39 s.vm) (hw : ∀ d ∈ tables_1, d.before a0 Z = true) (hby : c.code = code) (hml : c.maxLocals = 10) (hown : s.vm.findClass "com/example/faden/faden/rank/RecordReaderAtEndPinLaw" = some m.cls) (hnm : meth.name = "law") (e0 : T0.heap = h0) (N0 : Fr n0 locs) (Z0 : n0 ≤ h0.size) (p0 : Int32) (p1 : Int32) (p2 : Int32) (p3 : Int32) (hn : vn3c10_3 p3 = (3 : Int32)) (hm : vn3c10_22 p3 = (1 : Int32)) :
    OwnFin X0 (some .boolean) (LQ n0) room_1.cells room_1.slots (mkF m 0 #[.val (.int p0), .val (.int p1), .val (.int p2), .val (.int p3), .unset, .unset, .unset, .unset, .unset, .unset] []) := by
  refine OwnFin.step (g' := (mkF m 1 (Lan3c10_0 p0 p1 p2 p3) [(.int p3)])) X0 (fun t k => XS.iloadN X0.here hx rfl (hb hby at_0) rfl k) ?_
  refine OwnFin.step (g' := (mkF m 2 (Lan3c10_0 p0 p1 p2 p3) [(.int (3 : Int32)), (.int p3)])) X0 (fun t k => XS.iconst X0.here hx rfl (hb hby at_1) k) ?_
  refine OwnFin.step (g' := (mkF m 3 (Lan3c10_0 p0 p1 p2 p3) [(.int (p3 &&& (3 : Int32)))])) X0 (fun t k => XS.iand X0.here hx rfl (hb hby at_2) rfl k) ?_
  refine OwnFin.step (g' := (mkF m 5 #[.val (.int p0), .val (.int p1), .val (.int p2), .val (.int p3), .val (.int (vn3c10_3 p3)), .unset, .unset, .unset, .unset, .unset] [])) X0 (fun t k => XS.istore X0.here hx rfl (hb hby at_3) rfl (l' := #[.val (.int p0), .val (.int p1), .val (.int p2), .val (.int p3), .val (.int (vn3c10_3 p3)), .unset, .unset, .unset, .unset, .unset]) rfl k) ?_
  rw [hn]
  refine OwnFin.step (g' := (mkF m 6 (Lan3c10_1 p0 p1 p2 p3) [(.int p3)])) X0 (fun t k => XS.iloadN X0.here hx rfl (hb hby at_5) rfl k) ?_
  refine OwnFin.step (g' := (mkF m 7 (Lan3c10_1 p0 p1 p2 p3) [(.int (4 : Int32)), (.int p3)])) X0 (fun t k => XS.iconst X0.here hx rfl (hb hby at_6) k) ?_
  refine OwnFin.step (g' := (mkF m 8 (Lan3c10_1 p0 p1 p2 p3) [(.int (p3 &&& (4 : Int32)))])) X0 (fun t k => XS.iand X0.here hx rfl (hb hby at_7) rfl k) ?_
  refine OwnFin.step (g' := (mkF m 22 #[.val (.int p0), .val (.int p1), .val (.int p2), .val (.int p3), .val (.int (3 : Int32)), .unset, .unset, .unset, .unset, .unset] [(.int (vn3c10_22 p3))])) X0 (fun t k => ?_) ?_
  · show Steps p.tables e below (T0.setTop (mkF m 8 (Lan3c10_1 p0 p1 p2 p3) [(.int (p3 &&& (4 : Int32)))])) t
    by_cases hc1 : (p3 &&& (4 : Int32)) = (0 : Int32)
    · skip
      refine XS.ifYes X0.here hx rfl (pc0 := 8) (pc' := 21) rfl (hb hby at_8) rfl ((if0 _ _).trans (teq hc1).1) (by decide) (by decide) ?_
      show Steps p.tables e below (T0.setTop (mkF m 21 (Lan3c10_1 p0 p1 p2 p3) [])) t
      refine XS.iconst X0.here hx rfl (hb hby at_21) ?_
      show Steps p.tables e below (T0.setTop (mkF m 22 (Lan3c10_1 p0 p1 p2 p3) [(.int (0 : Int32))])) t
      have q2 : (vn3c10_22 p3) = (0 : Int32) := by
        show (if (p3 &&& (4 : Int32)) = (0 : Int32) then (0 : Int32) else (1 : Int32)) = (0 : Int32)
        simp only [if_pos hc1]
      rw [q2] at k
      exact k
    · skip
      refine XS.ifNo X0.here hx rfl (hb hby at_8) rfl ((if0 _ _).trans (feq hc1).1) ?_
      show Steps p.tables e below (T0.setTop (mkF m 11 (Lan3c10_1 p0 p1 p2 p3) [])) t
      refine XS.iload X0.here hx rfl (hb hby at_11) rfl ?_
      show Steps p.tables e below (T0.setTop (mkF m 13 (Lan3c10_1 p0 p1 p2 p3) [(.int (3 : Int32))])) t
      refine XS.iconst X0.here hx rfl (hb hby at_13) ?_
      show Steps p.tables e below (T0.setTop (mkF m 14 (Lan3c10_1 p0 p1 p2 p3) [(.int (2 : Int32)), (.int (3 : Int32))])) t
      refine XS.icmpNo X0.here hx rfl (hb hby at_14) rfl (flt (by decide)).1 ?_
      show Steps p.tables e below (T0.setTop (mkF m 17 (Lan3c10_1 p0 p1 p2 p3) [])) t
      refine XS.iconst X0.here hx rfl (hb hby at_17) ?_
      show Steps p.tables e below (T0.setTop (mkF m 18 (Lan3c10_1 p0 p1 p2 p3) [(.int (1 : Int32))])) t
      refine XS.goto X0.here hx rfl (pc0 := 18) (pc' := 22) rfl (hb hby at_18) (by decide) (by decide) ?_
      show Steps p.tables e below (T0.setTop (mkF m 22 (Lan3c10_1 p0 p1 p2 p3) [(.int (1 : Int32))])) t
      have q3 : (vn3c10_22 p3) = (1 : Int32) := by
        show (if (p3 &&& (4 : Int32)) = (0 : Int32) then (0 : Int32) else (1 : Int32)) = (1 : Int32)
        simp only [if_neg hc1]
      rw [q3] at k
      exact k
  refine OwnFin.step (g' := (mkF m 24 #[.val (.int p0), .val (.int p1), .val (.int p2), .val (.int p3), .val (.int (3 : Int32)), .val (.int (vn3c10_22 p3)), .unset, .unset, .unset, .unset] [])) X0 (fun t k => XS.istore X0.here hx rfl (hb hby at_22) rfl (l' := #[.val (.int p0), .val (.int p1), .val (.int p2), .val (.int p3), .val (.int (3 : Int32)), .val (.int (vn3c10_22 p3)), .unset, .unset, .unset, .unset]) rfl k) ?_
  rw [hm]
  refine OwnFin.step (g' := (mkF m 26 (Lan3c10_2 p0 p1 p2 p3) [(.int (3 : Int32))])) X0 (fun t k => XS.iload X0.here hx rfl (hb hby at_24) rfl k) ?_
  obtain ⟨T4, h4, b4, X4, e4, y4, K4, A4, st4⟩ := own_new X0 hx hZ (hw _ (wm 0 rfl)) e0 (g := (mkF m 26 (Lan3c10_2 p0 p1 p2 p3) [(.int (3 : Int32))])) rfl (hb hby at_26) rfl (by decide) (cap := 3) (by decide) (by decide) (by decide) (by decide)
  have B4 : Ary Z h4 b4 .byte 3 (fun i => .int ((fun _ => (0 : Int32)) i)) := A4
  have g_b4 : n0 ≤ b4 := by rw [y4]; exact Z0
  have Z4 := Nat.le_trans Z0 K4.1
  refine OwnFin.step (g' := (mkF m 28 (Lan3c10_2 p0 p1 p2 p3) [(.ref b4)])) X4 (fun t k => st4 _ k) ?_
  refine OwnFin.step (g' := (mkF m 30 (Lan3c10_3 p0 p1 p2 p3 b4) [])) X4 (fun t k => XS.astore X4.here hx rfl (hb hby at_28) rfl rfl (l' := (Lan3c10_3 p0 p1 p2 p3 b4)) rfl k) ?_
  refine OwnFin.step (g' := (mkF m 32 (Lan3c10_3 p0 p1 p2 p3 b4) [(.int (3 : Int32))])) X4 (fun t k => XS.iload X4.here hx rfl (hb hby at_30) rfl k) ?_
  refine OwnFin.step (g' := (mkF m 35 (Lan3c10_3 p0 p1 p2 p3 b4) [])) X4 (fun t k => XS.ifNo X4.here hx rfl (hb hby at_32) rfl ((if0 _ _).trans (tlt (by decide)).2.2.2) k) ?_
  refine OwnFin.step (g' := (mkF m 37 (Lan3c10_3 p0 p1 p2 p3 b4) [(.ref b4)])) X4 (fun t k => XS.aload X4.here hx rfl (hb hby at_35) rfl rfl k) ?_
  refine OwnFin.step (g' := (mkF m 38 (Lan3c10_3 p0 p1 p2 p3 b4) [(.int (0 : Int32)), (.ref b4)])) X4 (fun t k => XS.iconst X4.here hx rfl (hb hby at_37) k) ?_
  refine OwnFin.step (g' := (mkF m 40 (Lan3c10_3 p0 p1 p2 p3 b4) [(.int (1 : Int32)), (.int (0 : Int32)), (.ref b4)])) X4 (fun t k => XS.iload X4.here hx rfl (hb hby at_38) rfl k) ?_
  refine OwnFin.step (g' := (mkF m 43 (Lan3c10_3 p0 p1 p2 p3 b4) [(.int (0 : Int32)), (.ref b4)])) X4 (fun t k => XS.ifNo X4.here hx rfl (hb hby at_40) rfl ((if0 _ _).trans (feq (by decide)).1) k) ?_
  refine OwnFin.step (g' := (mkF m 46 (Lan3c10_3 p0 p1 p2 p3 b4) [(.int (128 : Int32)), (.int (0 : Int32)), (.ref b4)])) X4 (fun t k => XS.sipush X4.here hx rfl (hb hby at_43) k) ?_
  refine OwnFin.step (g' := (mkF m 47 (Lan3c10_3 p0 p1 p2 p3 b4) [(.int p0), (.int (128 : Int32)), (.int (0 : Int32)), (.ref b4)])) X4 (fun t k => XS.iloadN X4.here hx rfl (hb hby at_46) rfl k) ?_
  refine OwnFin.step (g' := (mkF m 49 (Lan3c10_3 p0 p1 p2 p3 b4) [(.int (127 : Int32)), (.int p0), (.int (128 : Int32)), (.int (0 : Int32)), (.ref b4)])) X4 (fun t k => XS.bipush X4.here hx rfl (hb hby at_47) k) ?_
  refine OwnFin.step (g' := (mkF m 50 (Lan3c10_3 p0 p1 p2 p3 b4) [(.int (p0 &&& (127 : Int32))), (.int (128 : Int32)), (.int (0 : Int32)), (.ref b4)])) X4 (fun t k => XS.iand X4.here hx rfl (hb hby at_49) rfl k) ?_
  refine OwnFin.step (g' := (mkF m 51 (Lan3c10_3 p0 p1 p2 p3 b4) [(.int ((128 : Int32) ||| (p0 &&& (127 : Int32)))), (.int (0 : Int32)), (.ref b4)])) X4 (fun t k => XT.ior X4.here hx rfl (hb hby at_50) rfl k) ?_
  refine OwnFin.step (g' := (mkF m 58 (Lan3c10_3 p0 p1 p2 p3 b4) [(.int ((128 : Int32) ||| (p0 &&& (127 : Int32)))), (.int (0 : Int32)), (.ref b4)])) X4 (fun t k => XS.goto X4.here hx rfl (pc0 := 51) (pc' := 58) rfl (hb hby at_51) (by decide) (by decide) k) ?_
  refine OwnFin.step (g' := (mkF m 59 (Lan3c10_3 p0 p1 p2 p3 b4) [(.int (((128 : Int32) ||| (p0 &&& (127 : Int32))).toInt8.toInt32)), (.int (0 : Int32)), (.ref b4)])) X4 (fun t k => XT.i2b X4.here hx rfl (hb hby at_58) rfl k) ?_
  obtain ⟨T5, h5, L5, X5, e5, N5, K5, A5, st5⟩ := own_stB X4 hx hZ e4 N0 (G := (fun _ => (0 : Int32))) B4 g_b4 (j := (0 : Int32)) (x := (((128 : Int32) ||| (p0 &&& (127 : Int32))).toInt8.toInt32)) (by decide) (g := (mkF m 59 (Lan3c10_3 p0 p1 p2 p3 b4) [(.int (((128 : Int32) ||| (p0 &&& (127 : Int32))).toInt8.toInt32)), (.int (0 : Int32)), (.ref b4)])) rfl rfl (hb hby at_59)
  have B5 : Ary Z h5 b4 .byte 3 (fun i => .int ((Gn3c10_59 p0) i)) := A5
  have Z5 := Nat.le_trans Z4 K5.1
  refine OwnFin.step (g' := (mkF m 60 (Lan3c10_3 p0 p1 p2 p3 b4) [])) X5 (fun t k => st5 _ k) ?_
  refine OwnFin.step (g' := (mkF m 62 (Lan3c10_3 p0 p1 p2 p3 b4) [(.int (3 : Int32))])) X5 (fun t k => XS.iload X5.here hx rfl (hb hby at_60) rfl k) ?_
  refine OwnFin.step (g' := (mkF m 63 (Lan3c10_3 p0 p1 p2 p3 b4) [(.int (1 : Int32)), (.int (3 : Int32))])) X5 (fun t k => XS.iconst X5.here hx rfl (hb hby at_62) k) ?_
  refine OwnFin.step (g' := (mkF m 66 (Lan3c10_3 p0 p1 p2 p3 b4) [])) X5 (fun t k => XS.icmpNo X5.here hx rfl (hb hby at_63) rfl (tlt (by decide)).2.2.2 k) ?_
  refine OwnFin.step (g' := (mkF m 68 (Lan3c10_3 p0 p1 p2 p3 b4) [(.ref b4)])) X5 (fun t k => XS.aload X5.here hx rfl (hb hby at_66) rfl rfl k) ?_
  refine OwnFin.step (g' := (mkF m 69 (Lan3c10_3 p0 p1 p2 p3 b4) [(.int (1 : Int32)), (.ref b4)])) X5 (fun t k => XS.iconst X5.here hx rfl (hb hby at_68) k) ?_
  refine OwnFin.step (g' := (mkF m 70 (Lan3c10_3 p0 p1 p2 p3 b4) [(.int p1), (.int (1 : Int32)), (.ref b4)])) X5 (fun t k => XS.iloadN X5.here hx rfl (hb hby at_69) rfl k) ?_
  refine OwnFin.step (g' := (mkF m 72 (Lan3c10_3 p0 p1 p2 p3 b4) [(.int (127 : Int32)), (.int p1), (.int (1 : Int32)), (.ref b4)])) X5 (fun t k => XS.bipush X5.here hx rfl (hb hby at_70) k) ?_
  refine OwnFin.step (g' := (mkF m 73 (Lan3c10_3 p0 p1 p2 p3 b4) [(.int (p1 &&& (127 : Int32))), (.int (1 : Int32)), (.ref b4)])) X5 (fun t k => XS.iand X5.here hx rfl (hb hby at_72) rfl k) ?_
  refine OwnFin.step (g' := (mkF m 74 (Lan3c10_3 p0 p1 p2 p3 b4) [(.int ((p1 &&& (127 : Int32)).toInt8.toInt32)), (.int (1 : Int32)), (.ref b4)])) X5 (fun t k => XT.i2b X5.here hx rfl (hb hby at_73) rfl k) ?_
  obtain ⟨T6, h6, L6, X6, e6, N6, K6, A6, st6⟩ := own_stB X5 hx hZ e5 N5 (G := (Gn3c10_59 p0)) B5 g_b4 (j := (1 : Int32)) (x := ((p1 &&& (127 : Int32)).toInt8.toInt32)) (by decide) (g := (mkF m 74 (Lan3c10_3 p0 p1 p2 p3 b4) [(.int ((p1 &&& (127 : Int32)).toInt8.toInt32)), (.int (1 : Int32)), (.ref b4)])) rfl rfl (hb hby at_74)
  have B6 : Ary Z h6 b4 .byte 3 (fun i => .int ((Gn3c10_74 p0 p1) i)) := A6
  have Z6 := Nat.le_trans Z5 K6.1
  refine OwnFin.step (g' := (mkF m 75 (Lan3c10_3 p0 p1 p2 p3 b4) [])) X6 (fun t k => st6 _ k) ?_
  refine OwnFin.step (g' := (mkF m 77 (Lan3c10_3 p0 p1 p2 p3 b4) [(.int (3 : Int32))])) X6 (fun t k => XS.iload X6.here hx rfl (hb hby at_75) rfl k) ?_
  refine OwnFin.step (g' := (mkF m 78 (Lan3c10_3 p0 p1 p2 p3 b4) [(.int (2 : Int32)), (.int (3 : Int32))])) X6 (fun t k => XS.iconst X6.here hx rfl (hb hby at_77) k) ?_
  refine OwnFin.step (g' := (mkF m 81 (Lan3c10_3 p0 p1 p2 p3 b4) [])) X6 (fun t k => XS.icmpNo X6.here hx rfl (hb hby at_78) rfl (tlt (by decide)).2.2.2 k) ?_
  refine OwnFin.step (g' := (mkF m 83 (Lan3c10_3 p0 p1 p2 p3 b4) [(.ref b4)])) X6 (fun t k => XS.aload X6.here hx rfl (hb hby at_81) rfl rfl k) ?_
  refine OwnFin.step (g' := (mkF m 84 (Lan3c10_3 p0 p1 p2 p3 b4) [(.int (2 : Int32)), (.ref b4)])) X6 (fun t k => XS.iconst X6.here hx rfl (hb hby at_83) k) ?_
  refine OwnFin.step (g' := (mkF m 85 (Lan3c10_3 p0 p1 p2 p3 b4) [(.int p2), (.int (2 : Int32)), (.ref b4)])) X6 (fun t k => XS.iloadN X6.here hx rfl (hb hby at_84) rfl k) ?_
  refine OwnFin.step (g' := (mkF m 87 (Lan3c10_3 p0 p1 p2 p3 b4) [(.int (127 : Int32)), (.int p2), (.int (2 : Int32)), (.ref b4)])) X6 (fun t k => XS.bipush X6.here hx rfl (hb hby at_85) k) ?_
  refine OwnFin.step (g' := (mkF m 88 (Lan3c10_3 p0 p1 p2 p3 b4) [(.int (p2 &&& (127 : Int32))), (.int (2 : Int32)), (.ref b4)])) X6 (fun t k => XS.iand X6.here hx rfl (hb hby at_87) rfl k) ?_
  refine OwnFin.step (g' := (mkF m 89 (Lan3c10_3 p0 p1 p2 p3 b4) [(.int ((p2 &&& (127 : Int32)).toInt8.toInt32)), (.int (2 : Int32)), (.ref b4)])) X6 (fun t k => XT.i2b X6.here hx rfl (hb hby at_88) rfl k) ?_
  obtain ⟨T7, h7, L7, X7, e7, N7, K7, A7, st7⟩ := own_stB X6 hx hZ e6 N6 (G := (Gn3c10_74 p0 p1)) B6 g_b4 (j := (2 : Int32)) (x := ((p2 &&& (127 : Int32)).toInt8.toInt32)) (by decide) (g := (mkF m 89 (Lan3c10_3 p0 p1 p2 p3 b4) [(.int ((p2 &&& (127 : Int32)).toInt8.toInt32)), (.int (2 : Int32)), (.ref b4)])) rfl rfl (hb hby at_89)
  have B7 : Ary Z h7 b4 .byte 3 (fun i => .int ((Gn3c10_89 p0 p1 p2) i)) := A7
  have Z7 := Nat.le_trans Z6 K7.1
  refine OwnFin.step (g' := (mkF m 90 (Lan3c10_3 p0 p1 p2 p3 b4) [])) X7 (fun t k => st7 _ k) ?_
  obtain ⟨T8, h8, X8, e8, E8, A8, D8, -, st8⟩ := newO X7 hx hZ hown (hw _ (wm 1 rfl)) (hw _ (wm 2 rfl)) (hw _ (wm 3 rfl)) e7 (g := (mkF m 90 (Lan3c10_3 p0 p1 p2 p3 b4) [])) rfl (hb hby at_90) (by decide) (by decide)
  obtain ⟨b8, y8⟩ : ∃ z, z = h7.size := ⟨_, rfl⟩
  rw [← y8] at A8 D8 st8
  have K8 := keep_ext E8
  have ne_b4_b8 : b4 ≠ b8 := Ary.neS B7 y8
  have g_b8 : n0 ≤ b8 := by rw [y8]; exact Z7
  have Z8 := Nat.le_trans Z7 K8.1
  have F8_record : Fld Z h8 b8 "com/example/faden/faden/rank/RecordReader" "record" "[B" .null := D8 (Or.inr (hw _ (wm 11 rfl))) (ty := (.array .byte)) (by decide)
  have F8_at : Fld Z h8 b8 "com/example/faden/faden/rank/RecordReader" "at" "I" (.int (0 : Int32)) := D8 (Or.inl (hw _ (wm 18 rfl))) (ty := .int) (by decide)
  refine OwnFin.step (g' := (mkF m 93 (Lan3c10_3 p0 p1 p2 p3 b4) [(.ref b8)])) X8 (fun t k => st8 _ k) ?_
  refine OwnFin.step (g' := (mkF m 94 (Lan3c10_3 p0 p1 p2 p3 b4) [(.ref b8), (.ref b8)])) X8 (fun t k => XS.dup X8.here hx rfl (hb hby at_93) rfl rfl k) ?_
  refine OwnFin.step (g' := (mkF m 96 (Lan3c10_3 p0 p1 p2 p3 b4) [(.ref b4), (.ref b8), (.ref b8)])) X8 (fun t k => XS.aload X8.here hx rfl (hb hby at_94) rfl rfl k) ?_
  obtain ⟨_, T9, L9, X9, ⟨rfl, N9q, u10, u11, u12, u13⟩, st9⟩ := own_callI X8 hx hZ (y := (⟨"com/example/faden/faden/rank/RecordReader", "<init>", "([B)V"⟩ : MethodName)) (W := 1) (a := b8) (argsL := [(.ref b4)]) (rest := [(.ref b8)]) rfl hown (hw _ (wm 4 rfl)) (hw _ (wm 5 rfl)) (hw _ (wm 3 rfl)) (hw _ (wm 6 rfl)) (by decide) (rm1 l Z a0 hw [] b8 b4 h8 n0 Z8 A8 g_b8 F8_record F8_at) (by decide) (by decide) (by decide) (by decide) e8 (g := (mkF m 96 (Lan3c10_3 p0 p1 p2 p3 b4) [(.ref b4), (.ref b8), (.ref b8)])) rfl (by rw [hml]; rfl) pd_0 rfl rfl (by show 2 * 0 + _ ≤ _; exact Nat.le_of_eq rfl) (hb hby at_96)
  have N9 := Fr.app N7 N9q
  obtain ⟨h9, e9⟩ : ∃ z, T9.heap = z := ⟨_, rfl⟩
  rw [e9] at u10 u11 u12 u13
  have K9 := u10
  have Z9 := Nat.le_trans Z8 K9.1
  refine OwnFin.step (g' := (mkF m 99 (Lan3c10_3 p0 p1 p2 p3 b4) [(.ref b8)])) X9 (fun t k => st9 _ k) ?_
  refine OwnFin.step (g' := (mkF m 101 (Lan3c10_4 p0 p1 p2 p3 b4 b8) [])) X9 (fun t k => XS.astore X9.here hx rfl (hb hby at_99) rfl rfl (l' := (Lan3c10_4 p0 p1 p2 p3 b4 b8)) rfl k) ?_
  refine OwnFin.step (g' := (mkF m 103 (Lan3c10_4 p0 p1 p2 p3 b4 b8) [(.ref b8)])) X9 (fun t k => XS.aload X9.here hx rfl (hb hby at_101) rfl rfl k) ?_
  have A15 := ((B7.keep K8 nin0).keep K9 (ninS ne_b4_b8 nin0))
  obtain ⟨_, T14, L14, X14, ⟨rfl, N14q, u16⟩, st14⟩ := own_callV X9 hx hZ (y := (⟨"com/example/faden/faden/rank/RecordReader", "atEnd", "()Z"⟩ : MethodName)) (W := 0) (a := b8) (argsL := []) (rest := []) hown (hw _ (wm 12 rfl)) (hw _ (wm 13 rfl)) (hw _ (wm 15 rfl)) (hw _ (wm 14 rfl)) (hw _ (wm 3 rfl)) (hw _ (wm 16 rfl)) (by decide) u11 (rm3 l Z a0 hw [] b8 3 (Gn3c10_89 p0 p1 p2) b4 (0 : Int32) h9 n0 Z9 u11 g_b8 u12 u13 A15 (Ne.symm ne_b4_b8)) (by decide) (by decide) (by decide) (by decide) e9 (g := (mkF m 103 (Lan3c10_4 p0 p1 p2 p3 b4 b8) [(.ref b8)])) rfl (by rw [hml]; rfl) pd_1 rfl rfl (by show 2 * 0 + _ ≤ _; exact Nat.le_of_eq rfl) (hb hby at_103)
  have N14 := Fr.app N9 N14q
  obtain ⟨h14, e14⟩ : ∃ z, T14.heap = z := ⟨_, rfl⟩
  rw [e14] at u16
  have K14 := u16
  have Z14 := Nat.le_trans Z9 K14.1
  rw [show (nar .boolean (v3_17 (0 : Int32) 3)) = (0 : Int32) from by decide] at st14
  refine OwnFin.step (g' := (mkF m 106 (Lan3c10_4 p0 p1 p2 p3 b4 b8) [(.int (0 : Int32))])) X14 (fun t k => st14 _ k) ?_
  refine OwnFin.step (g' := (mkF m 108 (Lan3c10_4 p0 p1 p2 p3 b4 b8) [(.int (3 : Int32)), (.int (0 : Int32))])) X14 (fun t k => XS.iload X14.here hx rfl (hb hby at_106) rfl k) ?_
  refine OwnFin.step (g' := (mkF m 115 (Lan3c10_4 p0 p1 p2 p3 b4 b8) [(.int (0 : Int32))])) X14 (fun t k => XS.ifYes X14.here hx rfl (pc0 := 108) (pc' := 115) rfl (hb hby at_108) rfl ((if0 _ _).trans (feq (by decide)).2) (by decide) (by decide) k) ?_
  refine OwnFin.step (g' := (mkF m 116 (Lan3c10_4 p0 p1 p2 p3 b4 b8) [(.int (0 : Int32)), (.int (0 : Int32))])) X14 (fun t k => XS.iconst X14.here hx rfl (hb hby at_115) k) ?_
  refine OwnFin.step (g' := (mkF m 119 (Lan3c10_4 p0 p1 p2 p3 b4 b8) [])) X14 (fun t k => XS.icmpNo X14.here hx rfl (hb hby at_116) rfl (teq (by decide)).2 k) ?_
  refine OwnFin.step (g' := (mkF m 120 (Lan3c10_4 p0 p1 p2 p3 b4 b8) [(.int (1 : Int32))])) X14 (fun t k => XS.iconst X14.here hx rfl (hb hby at_119) k) ?_
  refine OwnFin.step (g' := (mkF m 124 (Lan3c10_4 p0 p1 p2 p3 b4 b8) [(.int (1 : Int32))])) X14 (fun t k => XS.goto X14.here hx rfl (pc0 := 120) (pc' := 124) rfl (hb hby at_120) (by decide) (by decide) k) ?_
  refine OwnFin.step (g' := (mkF m 126 (Lan3c10_5 p0 p1 p2 p3 b4 b8) [])) X14 (fun t k => XS.istore X14.here hx rfl (hb hby at_124) rfl (l' := (Lan3c10_5 p0 p1 p2 p3 b4 b8)) rfl k) ?_
  refine OwnFin.step (g' := (mkF m 127 (Lan3c10_5 p0 p1 p2 p3 b4 b8) [(.int (0 : Int32))])) X14 (fun t k => XS.iconst X14.here hx rfl (hb hby at_126) k) ?_
  refine OwnFin.step (g' := (mkF m 129 (Lan3c10_6 p0 p1 p2 p3 b4 b8) [])) X14 (fun t k => XS.istore X14.here hx rfl (hb hby at_127) rfl (l' := (Lan3c10_6 p0 p1 p2 p3 b4 b8)) rfl k) ?_
  refine OwnFin.step (g' := (mkF m 131 (Lan3c10_6 p0 p1 p2 p3 b4 b8) [(.int (3 : Int32))])) X14 (fun t k => XS.iload X14.here hx rfl (hb hby at_129) rfl k) ?_
  refine OwnFin.step (g' := (mkF m 132 (Lan3c10_6 p0 p1 p2 p3 b4 b8) [(.int (1 : Int32)), (.int (3 : Int32))])) X14 (fun t k => XS.iconst X14.here hx rfl (hb hby at_131) k) ?_
  refine OwnFin.step (g' := (mkF m 135 (Lan3c10_6 p0 p1 p2 p3 b4 b8) [])) X14 (fun t k => XS.icmpNo X14.here hx rfl (hb hby at_132) rfl (flt (by decide)).1 k) ?_
  refine OwnFin.step (g' := (mkF m 137 (Lan3c10_6 p0 p1 p2 p3 b4 b8) [(.ref b8)])) X14 (fun t k => XS.aload X14.here hx rfl (hb hby at_135) rfl rfl k) ?_
  have E18 := (Exa.keep u11 K14)
  have F19 := (u12.keep K14 nin0)
  have F20 := (u13.keep K14 nin0)
  have A21 := (A15.keep K14 nin0)
  obtain ⟨_, T17, L17, X17, ⟨rfl, N17q, u22, u23, u24, u25⟩, st17⟩ := own_callV X14 hx hZ (y := (⟨"com/example/faden/faden/rank/RecordReader", "number", "()I"⟩ : MethodName)) (W := 0) (a := b8) (argsL := []) (rest := []) hown (hw _ (wm 19 rfl)) (hw _ (wm 20 rfl)) (hw _ (wm 22 rfl)) (hw _ (wm 21 rfl)) (hw _ (wm 3 rfl)) (hw _ (wm 23 rfl)) (by decide) E18 (rm4a0k2 l Z a0 hw [] b8 3 (Gn3c10_89 p0 p1 p2) b4 h14 n0 Z14 E18 g_b8 F19 F20 A21 (Ne.symm ne_b4_b8) (exhlnn3c10_137 p3 hn hm) (exhb0n3c10_137 p0 p1 p2 p3 hn hm) (exhb1n3c10_137 p0 p1 p2 p3 hn hm)) (by decide) (by decide) (by decide) (by decide) e14 (g := (mkF m 137 (Lan3c10_6 p0 p1 p2 p3 b4 b8) [(.ref b8)])) rfl (by rw [hml]; rfl) pd_2 rfl rfl (by show 2 * 0 + _ ≤ _; exact Nat.le_of_eq rfl) (hb hby at_137)
  have N17 := Fr.app N14 N17q
  obtain ⟨h17, e17⟩ : ∃ z, T17.heap = z := ⟨_, rfl⟩
  rw [e17] at u22 u23 u24 u25
  have K17 := u22
  have Z17 := Nat.le_trans Z14 K17.1
  refine OwnFin.step (g' := (mkF m 140 (Lan3c10_6 p0 p1 p2 p3 b4 b8) [(.int (va0k24_77b (Gn3c10_89 p0 p1 p2)))])) X17 (fun t k => st17 _ k) ?_
  refine OwnFin.step (g' := (mkF m 141 (Lan3c10_6 p0 p1 p2 p3 b4 b8) [])) X17 (fun t k => XT.pop X17.here hx rfl (hb hby at_140) rfl rfl k) ?_
  refine OwnFin.step (g' := (mkF m 143 (Lan3c10_6 p0 p1 p2 p3 b4 b8) [(.int (0 : Int32))])) X17 (fun t k => XS.iload X17.here hx rfl (hb hby at_141) rfl k) ?_
  refine OwnFin.step (g' := (mkF m 145 (Lan3c10_6 p0 p1 p2 p3 b4 b8) [(.int (1 : Int32)), (.int (0 : Int32))])) X17 (fun t k => XS.iload X17.here hx rfl (hb hby at_143) rfl k) ?_
  refine OwnFin.step (g' := (mkF m 148 (Lan3c10_6 p0 p1 p2 p3 b4 b8) [(.int (0 : Int32))])) X17 (fun t k => XS.ifNo X17.here hx rfl (hb hby at_145) rfl ((if0 _ _).trans (feq (by decide)).1) k) ?_
  refine OwnFin.step (g' := (mkF m 149 (Lan3c10_6 p0 p1 p2 p3 b4 b8) [(.int (2 : Int32)), (.int (0 : Int32))])) X17 (fun t k => XS.iconst X17.here hx rfl (hb hby at_148) k) ?_
  refine OwnFin.step (g' := (mkF m 153 (Lan3c10_6 p0 p1 p2 p3 b4 b8) [(.int (2 : Int32)), (.int (0 : Int32))])) X17 (fun t k => XS.goto X17.here hx rfl (pc0 := 149) (pc' := 153) rfl (hb hby at_149) (by decide) (by decide) k) ?_
  refine OwnFin.step (g' := (mkF m 154 (Lan3c10_6 p0 p1 p2 p3 b4 b8) [(.int (2 : Int32))])) X17 (fun t k => XS.iadd X17.here hx rfl (hb hby at_153) rfl k) ?_
  refine OwnFin.step (g' := (mkF m 156 (Lan3c10_7 p0 p1 p2 p3 b4 b8) [])) X17 (fun t k => XS.istore X17.here hx rfl (hb hby at_154) rfl (l' := (Lan3c10_7 p0 p1 p2 p3 b4 b8)) rfl k) ?_
  refine OwnFin.step (g' := (mkF m 158 (Lan3c10_7 p0 p1 p2 p3 b4 b8) [(.int (1 : Int32))])) X17 (fun t k => XS.iload X17.here hx rfl (hb hby at_156) rfl k) ?_
  refine OwnFin.step (g' := (mkF m 161 (Lan3c10_7 p0 p1 p2 p3 b4 b8) [])) X17 (fun t k => XS.ifNo X17.here hx rfl (hb hby at_158) rfl ((if0 _ _).trans (feq (by decide)).1) k) ?_
  refine OwnFin.step (g' := (mkF m 163 (Lan3c10_7 p0 p1 p2 p3 b4 b8) [(.ref b8)])) X17 (fun t k => XS.aload X17.here hx rfl (hb hby at_161) rfl rfl k) ?_
  have A27 := (A21.keep K17 (ninS ne_b4_b8 nin0))
  obtain ⟨_, T26, L26, X26, ⟨rfl, N26q, u28⟩, st26⟩ := own_callV X17 hx hZ (y := (⟨"com/example/faden/faden/rank/RecordReader", "atEnd", "()Z"⟩ : MethodName)) (W := 0) (a := b8) (argsL := []) (rest := []) hown (hw _ (wm 12 rfl)) (hw _ (wm 13 rfl)) (hw _ (wm 15 rfl)) (hw _ (wm 14 rfl)) (hw _ (wm 3 rfl)) (hw _ (wm 16 rfl)) (by decide) u23 (rm3 l Z a0 hw [] b8 3 (Gn3c10_89 p0 p1 p2) b4 (2 : Int32) h17 n0 Z17 u23 g_b8 u24 u25 A27 (Ne.symm ne_b4_b8)) (by decide) (by decide) (by decide) (by decide) e17 (g := (mkF m 163 (Lan3c10_7 p0 p1 p2 p3 b4 b8) [(.ref b8)])) rfl (by rw [hml]; rfl) pd_1 rfl rfl (by show 2 * 0 + _ ≤ _; exact Nat.le_of_eq rfl) (hb hby at_163)
  have N26 := Fr.app N17 N26q
  obtain ⟨h26, e26⟩ : ∃ z, T26.heap = z := ⟨_, rfl⟩
  rw [e26] at u28
  have K26 := u28
  have Z26 := Nat.le_trans Z17 K26.1
  rw [show (nar .boolean (v3_17 (2 : Int32) 3)) = (0 : Int32) from by decide] at st26
  refine OwnFin.step (g' := (mkF m 166 (Lan3c10_7 p0 p1 p2 p3 b4 b8) [(.int (0 : Int32))])) X26 (fun t k => st26 _ k) ?_
  refine OwnFin.step (g' := (mkF m 168 (Lan3c10_7 p0 p1 p2 p3 b4 b8) [(.int (2 : Int32)), (.int (0 : Int32))])) X26 (fun t k => XS.iload X26.here hx rfl (hb hby at_166) rfl k) ?_
  refine OwnFin.step (g' := (mkF m 170 (Lan3c10_7 p0 p1 p2 p3 b4 b8) [(.int (3 : Int32)), (.int (2 : Int32)), (.int (0 : Int32))])) X26 (fun t k => XS.iload X26.here hx rfl (hb hby at_168) rfl k) ?_
  refine OwnFin.step (g' := (mkF m 177 (Lan3c10_7 p0 p1 p2 p3 b4 b8) [(.int (0 : Int32))])) X26 (fun t k => XS.icmpYes X26.here hx rfl (pc0 := 170) (pc' := 177) rfl (hb hby at_170) rfl (feq (by decide)).2 (by decide) (by decide) k) ?_
  refine OwnFin.step (g' := (mkF m 178 (Lan3c10_7 p0 p1 p2 p3 b4 b8) [(.int (0 : Int32)), (.int (0 : Int32))])) X26 (fun t k => XS.iconst X26.here hx rfl (hb hby at_177) k) ?_
  refine OwnFin.step (g' := (mkF m 181 (Lan3c10_7 p0 p1 p2 p3 b4 b8) [])) X26 (fun t k => XS.icmpNo X26.here hx rfl (hb hby at_178) rfl (teq (by decide)).2 k) ?_
  refine OwnFin.step (g' := (mkF m 182 (Lan3c10_7 p0 p1 p2 p3 b4 b8) [(.int (1 : Int32))])) X26 (fun t k => XS.iconst X26.here hx rfl (hb hby at_181) k) ?_
  refine OwnFin.step (g' := (mkF m 186 (Lan3c10_7 p0 p1 p2 p3 b4 b8) [(.int (1 : Int32))])) X26 (fun t k => XS.goto X26.here hx rfl (pc0 := 182) (pc' := 186) rfl (hb hby at_182) (by decide) (by decide) k) ?_
  refine OwnFin.step (g' := (mkF m 188 (Lan3c10_7 p0 p1 p2 p3 b4 b8) [])) X26 (fun t k => XS.istore X26.here hx rfl (hb hby at_186) rfl (l' := (Lan3c10_7 p0 p1 p2 p3 b4 b8)) rfl k) ?_
  refine OwnFin.step (g' := (mkF m 190 (Lan3c10_7 p0 p1 p2 p3 b4 b8) [(.int (2 : Int32))])) X26 (fun t k => XS.iload X26.here hx rfl (hb hby at_188) rfl k) ?_
  refine OwnFin.step (g' := (mkF m 192 (Lan3c10_7 p0 p1 p2 p3 b4 b8) [(.int (3 : Int32)), (.int (2 : Int32))])) X26 (fun t k => XS.iload X26.here hx rfl (hb hby at_190) rfl k) ?_
  refine OwnFin.step (g' := (mkF m 195 (Lan3c10_7 p0 p1 p2 p3 b4 b8) [])) X26 (fun t k => XS.icmpNo X26.here hx rfl (hb hby at_192) rfl (tlt (by decide)).2.1 k) ?_
  refine OwnFin.step (g' := (mkF m 197 (Lan3c10_7 p0 p1 p2 p3 b4 b8) [(.ref b8)])) X26 (fun t k => XS.aload X26.here hx rfl (hb hby at_195) rfl rfl k) ?_
  have E30 := (Exa.keep u23 K26)
  have F31 := (u24.keep K26 nin0)
  have F32 := (u25.keep K26 nin0)
  have A33 := (A27.keep K26 nin0)
  obtain ⟨_, T29, L29, X29, ⟨rfl, N29q, u34, u35, u36, u37⟩, st29⟩ := own_callV X26 hx hZ (y := (⟨"com/example/faden/faden/rank/RecordReader", "number", "()I"⟩ : MethodName)) (W := 0) (a := b8) (argsL := []) (rest := []) hown (hw _ (wm 19 rfl)) (hw _ (wm 20 rfl)) (hw _ (wm 22 rfl)) (hw _ (wm 21 rfl)) (hw _ (wm 3 rfl)) (hw _ (wm 23 rfl)) (by decide) E30 (rm4a2k1 l Z a0 hw [] b8 3 (Gn3c10_89 p0 p1 p2) b4 h26 n0 Z26 E30 g_b8 F31 F32 A33 (Ne.symm ne_b4_b8) (exhlnn3c10_197 p3 hn hm) (exhb0n3c10_197 p0 p1 p2 p3 hn hm)) (by decide) (by decide) (by decide) (by decide) e26 (g := (mkF m 197 (Lan3c10_7 p0 p1 p2 p3 b4 b8) [(.ref b8)])) rfl (by rw [hml]; rfl) pd_2 rfl rfl (by show 2 * 0 + _ ≤ _; exact Nat.le_of_eq rfl) (hb hby at_197)
  have N29 := Fr.app N26 N29q
  obtain ⟨h29, e29⟩ : ∃ z, T29.heap = z := ⟨_, rfl⟩
  rw [e29] at u34 u35 u36 u37
  have K29 := u34
  have Z29 := Nat.le_trans Z26 K29.1
  refine OwnFin.step (g' := (mkF m 200 (Lan3c10_7 p0 p1 p2 p3 b4 b8) [(.int (va2k14_77 (Gn3c10_89 p0 p1 p2)))])) X29 (fun t k => st29 _ k) ?_
  refine OwnFin.step (g' := (mkF m 201 (Lan3c10_7 p0 p1 p2 p3 b4 b8) [])) X29 (fun t k => XT.pop X29.here hx rfl (hb hby at_200) rfl rfl k) ?_
  refine OwnFin.step (g' := (mkF m 203 (Lan3c10_7 p0 p1 p2 p3 b4 b8) [(.int (2 : Int32))])) X29 (fun t k => XS.iload X29.here hx rfl (hb hby at_201) rfl k) ?_
  refine OwnFin.step (g' := (mkF m 204 (Lan3c10_7 p0 p1 p2 p3 b4 b8) [(.int (1 : Int32)), (.int (2 : Int32))])) X29 (fun t k => XS.iconst X29.here hx rfl (hb hby at_203) k) ?_
  refine OwnFin.step (g' := (mkF m 205 (Lan3c10_7 p0 p1 p2 p3 b4 b8) [(.int (3 : Int32))])) X29 (fun t k => XS.iadd X29.here hx rfl (hb hby at_204) rfl k) ?_
  refine OwnFin.step (g' := (mkF m 207 (Lan3c10_8 p0 p1 p2 p3 b4 b8) [])) X29 (fun t k => XS.istore X29.here hx rfl (hb hby at_205) rfl (l' := (Lan3c10_8 p0 p1 p2 p3 b4 b8)) rfl k) ?_
  refine OwnFin.step (g' := (mkF m 209 (Lan3c10_8 p0 p1 p2 p3 b4 b8) [(.int (1 : Int32))])) X29 (fun t k => XS.iload X29.here hx rfl (hb hby at_207) rfl k) ?_
  refine OwnFin.step (g' := (mkF m 212 (Lan3c10_8 p0 p1 p2 p3 b4 b8) [])) X29 (fun t k => XS.ifNo X29.here hx rfl (hb hby at_209) rfl ((if0 _ _).trans (feq (by decide)).1) k) ?_
  refine OwnFin.step (g' := (mkF m 214 (Lan3c10_8 p0 p1 p2 p3 b4 b8) [(.ref b8)])) X29 (fun t k => XS.aload X29.here hx rfl (hb hby at_212) rfl rfl k) ?_
  have A39 := (A33.keep K29 (ninS ne_b4_b8 nin0))
  obtain ⟨_, T38, L38, X38, ⟨rfl, N38q, u40⟩, st38⟩ := own_callV X29 hx hZ (y := (⟨"com/example/faden/faden/rank/RecordReader", "atEnd", "()Z"⟩ : MethodName)) (W := 0) (a := b8) (argsL := []) (rest := []) hown (hw _ (wm 12 rfl)) (hw _ (wm 13 rfl)) (hw _ (wm 15 rfl)) (hw _ (wm 14 rfl)) (hw _ (wm 3 rfl)) (hw _ (wm 16 rfl)) (by decide) u35 (rm3 l Z a0 hw [] b8 3 (Gn3c10_89 p0 p1 p2) b4 (3 : Int32) h29 n0 Z29 u35 g_b8 u36 u37 A39 (Ne.symm ne_b4_b8)) (by decide) (by decide) (by decide) (by decide) e29 (g := (mkF m 214 (Lan3c10_8 p0 p1 p2 p3 b4 b8) [(.ref b8)])) rfl (by rw [hml]; rfl) pd_1 rfl rfl (by show 2 * 0 + _ ≤ _; exact Nat.le_of_eq rfl) (hb hby at_214)
  have N38 := Fr.app N29 N38q
  obtain ⟨h38, e38⟩ : ∃ z, T38.heap = z := ⟨_, rfl⟩
  rw [e38] at u40
  have K38 := u40
  have Z38 := Nat.le_trans Z29 K38.1
  rw [show (nar .boolean (v3_17 (3 : Int32) 3)) = (1 : Int32) from by decide] at st38
  refine OwnFin.step (g' := (mkF m 217 (Lan3c10_8 p0 p1 p2 p3 b4 b8) [(.int (1 : Int32))])) X38 (fun t k => st38 _ k) ?_
  refine OwnFin.step (g' := (mkF m 219 (Lan3c10_8 p0 p1 p2 p3 b4 b8) [(.int (3 : Int32)), (.int (1 : Int32))])) X38 (fun t k => XS.iload X38.here hx rfl (hb hby at_217) rfl k) ?_
  refine OwnFin.step (g' := (mkF m 221 (Lan3c10_8 p0 p1 p2 p3 b4 b8) [(.int (3 : Int32)), (.int (3 : Int32)), (.int (1 : Int32))])) X38 (fun t k => XS.iload X38.here hx rfl (hb hby at_219) rfl k) ?_
  refine OwnFin.step (g' := (mkF m 224 (Lan3c10_8 p0 p1 p2 p3 b4 b8) [(.int (1 : Int32))])) X38 (fun t k => XS.icmpNo X38.here hx rfl (hb hby at_221) rfl (teq (by decide)).2 k) ?_
  refine OwnFin.step (g' := (mkF m 225 (Lan3c10_8 p0 p1 p2 p3 b4 b8) [(.int (1 : Int32)), (.int (1 : Int32))])) X38 (fun t k => XS.iconst X38.here hx rfl (hb hby at_224) k) ?_
  refine OwnFin.step (g' := (mkF m 229 (Lan3c10_8 p0 p1 p2 p3 b4 b8) [(.int (1 : Int32)), (.int (1 : Int32))])) X38 (fun t k => XS.goto X38.here hx rfl (pc0 := 225) (pc' := 229) rfl (hb hby at_225) (by decide) (by decide) k) ?_
  refine OwnFin.step (g' := (mkF m 232 (Lan3c10_8 p0 p1 p2 p3 b4 b8) [])) X38 (fun t k => XS.icmpNo X38.here hx rfl (hb hby at_229) rfl (teq (by decide)).2 k) ?_
  refine OwnFin.step (g' := (mkF m 233 (Lan3c10_8 p0 p1 p2 p3 b4 b8) [(.int (1 : Int32))])) X38 (fun t k => XS.iconst X38.here hx rfl (hb hby at_232) k) ?_
  refine OwnFin.step (g' := (mkF m 237 (Lan3c10_8 p0 p1 p2 p3 b4 b8) [(.int (1 : Int32))])) X38 (fun t k => XS.goto X38.here hx rfl (pc0 := 233) (pc' := 237) rfl (hb hby at_233) (by decide) (by decide) k) ?_
  refine OwnFin.step (g' := (mkF m 239 (Lan3c10_8 p0 p1 p2 p3 b4 b8) [])) X38 (fun t k => XS.istore X38.here hx rfl (hb hby at_237) rfl (l' := (Lan3c10_8 p0 p1 p2 p3 b4 b8)) rfl k) ?_
  refine OwnFin.step (g' := (mkF m 241 (Lan3c10_8 p0 p1 p2 p3 b4 b8) [(.int (3 : Int32))])) X38 (fun t k => XS.iload X38.here hx rfl (hb hby at_239) rfl k) ?_
  refine OwnFin.step (g' := (mkF m 243 (Lan3c10_8 p0 p1 p2 p3 b4 b8) [(.int (3 : Int32)), (.int (3 : Int32))])) X38 (fun t k => XS.iload X38.here hx rfl (hb hby at_241) rfl k) ?_
  refine OwnFin.step (g' := (mkF m 290 (Lan3c10_8 p0 p1 p2 p3 b4 b8) [])) X38 (fun t k => XS.icmpYes X38.here hx rfl (pc0 := 243) (pc' := 290) rfl (hb hby at_243) rfl (flt (by decide)).2.1 (by decide) (by decide) k) ?_
  refine OwnFin.step (g' := (mkF m 292 (Lan3c10_8 p0 p1 p2 p3 b4 b8) [(.int (1 : Int32))])) X38 (fun t k => XS.iload X38.here hx rfl (hb hby at_290) rfl k) ?_
  refine OwnFin.step (g' := (mkF m 295 (Lan3c10_8 p0 p1 p2 p3 b4 b8) [])) X38 (fun t k => XS.ifNo X38.here hx rfl (hb hby at_292) rfl ((if0 _ _).trans (feq (by decide)).1) k) ?_
  refine OwnFin.step (g' := (mkF m 297 (Lan3c10_8 p0 p1 p2 p3 b4 b8) [(.ref b8)])) X38 (fun t k => XS.aload X38.here hx rfl (hb hby at_295) rfl rfl k) ?_
  have E42 := (Exa.keep u35 K38)
  have F43 := (u36.keep K38 nin0)
  have F44 := (u37.keep K38 nin0)
  have A45 := (A39.keep K38 nin0)
  obtain ⟨_, T41, L41, X41, ⟨rfl, N41q, u46⟩, st41⟩ := own_callV X38 hx hZ (y := (⟨"com/example/faden/faden/rank/RecordReader", "atEnd", "()Z"⟩ : MethodName)) (W := 0) (a := b8) (argsL := []) (rest := []) hown (hw _ (wm 12 rfl)) (hw _ (wm 13 rfl)) (hw _ (wm 15 rfl)) (hw _ (wm 14 rfl)) (hw _ (wm 3 rfl)) (hw _ (wm 16 rfl)) (by decide) E42 (rm3 l Z a0 hw [] b8 3 (Gn3c10_89 p0 p1 p2) b4 (3 : Int32) h38 n0 Z38 E42 g_b8 F43 F44 A45 (Ne.symm ne_b4_b8)) (by decide) (by decide) (by decide) (by decide) e38 (g := (mkF m 297 (Lan3c10_8 p0 p1 p2 p3 b4 b8) [(.ref b8)])) rfl (by rw [hml]; rfl) pd_1 rfl rfl (by show 2 * 0 + _ ≤ _; exact Nat.le_of_eq rfl) (hb hby at_297)
  have N41 := Fr.app N38 N41q
  obtain ⟨h41, e41⟩ : ∃ z, T41.heap = z := ⟨_, rfl⟩
  rw [e41] at u46
  have K41 := u46
  have Z41 := Nat.le_trans Z38 K41.1
  rw [show (nar .boolean (v3_17 (3 : Int32) 3)) = (1 : Int32) from by decide] at st41
  refine OwnFin.step (g' := (mkF m 300 (Lan3c10_8 p0 p1 p2 p3 b4 b8) [(.int (1 : Int32))])) X41 (fun t k => st41 _ k) ?_
  refine OwnFin.step (g' := (mkF m 303 (Lan3c10_8 p0 p1 p2 p3 b4 b8) [])) X41 (fun t k => XS.ifNo X41.here hx rfl (hb hby at_300) rfl ((if0 _ _).trans (feq (by decide)).1) k) ?_
  refine OwnFin.step (g' := (mkF m 304 (Lan3c10_8 p0 p1 p2 p3 b4 b8) [(.int (1 : Int32))])) X41 (fun t k => XS.iconst X41.here hx rfl (hb hby at_303) k) ?_
  refine OwnFin.step (g' := (mkF m 308 (Lan3c10_8 p0 p1 p2 p3 b4 b8) [(.int (1 : Int32))])) X41 (fun t k => XS.goto X41.here hx rfl (pc0 := 304) (pc' := 308) rfl (hb hby at_304) (by decide) (by decide) k) ?_
  refine OwnFin.step (g' := (mkF m 310 (Lan3c10_8 p0 p1 p2 p3 b4 b8) [])) X41 (fun t k => XS.istore X41.here hx rfl (hb hby at_308) rfl (l' := (Lan3c10_8 p0 p1 p2 p3 b4 b8)) rfl k) ?_
  refine OwnFin.step (g' := (mkF m 312 (Lan3c10_8 p0 p1 p2 p3 b4 b8) [(.int (1 : Int32))])) X41 (fun t k => XS.iload X41.here hx rfl (hb hby at_310) rfl k) ?_
  refine OwnFin.retNar X41 (by simp) (hb hby at_312) (by decide) (by decide) ?_
  exact ⟨rfl, N41⟩
set_option maxRecDepth 65536 in
set_option maxHeartbeats 40000000 in
theorem rm0n3c1 (l : Launch) (Z : State) (a0 : Array Value) (hw : ∀ d ∈ tables_1, d.before a0 Z = true) (ws : List Jvm.Cond) (p0 : Int32) (p1 : Int32) (p2 : Int32) (p3 : Int32) (h0 : Heap) (n0 : Nat) (Z0 : n0 ≤ h0.size) (hn : vn3c10_3 p3 = (3 : Int32)) (hm : vn3c10_22 p3 = (1 : Int32)) :
    MetFree l x (head1 (Jvm.Cond.code x code maxLocals ret :: ws) room_1) (fun a U => a = #[(.int p0), (.int p1), (.int p2), (.int p3)] ∧ Z.Warmed39 U.vm ∧ U.heap = h0) (fun _ _ _ _ _ => True) (fun _ U o U' => ∃ v L, o = .returned v ∧ (LQ n0) v U'.heap L ∧ FrameEnd U o U' L room_1.cells room_1.slots) :=
  own_met (ret := ret) (Q := (LQ n0)) (plainFor_of_name pn_0) (fun m => ef_0 m p0 p1 p2 p3) (fun p e s m below meth c s₁ X hx hby hml hown hnm hZ e0 => j0n3c1 X hx hZ hw hby hml hown hnm e0 (Fr.nil n0) Z0 p0 p1 p2 p3 hn hm)
theorem own_n (p3 : Int32) : (p3 &&& 3) = (0 : Int32) ∨ (p3 &&& 3) = (1 : Int32) ∨ (p3 &&& 3) = (2 : Int32) ∨ (p3 &&& 3) = (3 : Int32) := by
  have h := Jvm.Kit.i32_mask p3 3 (k := 2) (by decide) (by decide)
  have c0 : (0 : Int32).toInt = 0 := rfl
  have c1 : (1 : Int32).toInt = 1 := rfl
  have c2 : (2 : Int32).toInt = 2 := rfl
  have c3 : (3 : Int32).toInt = 3 := rfl
  simp only [i32eq]
  omega
theorem own_m (p3 : Int32) : (if (p3 &&& 4) = (0 : Int32) then (0 : Int32) else 1) = 0 ∨ (if (p3 &&& 4) = (0 : Int32) then (0 : Int32) else 1) = 1 := by
  by_cases q : (p3 &&& 4) = (0 : Int32)
  · exact Or.inl (if_pos q)
  · exact Or.inr (if_neg q)
set_option maxRecDepth 65536 in
set_option maxHeartbeats 40000000 in
theorem rm0 (l : Launch) (Z : State) (a0 : Array Value) (hw : ∀ d ∈ tables_1, d.before a0 Z = true) (ws : List Jvm.Cond) (p0 : Int32) (p1 : Int32) (p2 : Int32) (p3 : Int32) (h0 : Heap) (n0 : Nat) (Z0 : n0 ≤ h0.size) :
    MetFree l x (head1 (Jvm.Cond.code x code maxLocals ret :: ws) room_1) (fun a U => a = #[(.int p0), (.int p1), (.int p2), (.int p3)] ∧ Z.Warmed39 U.vm ∧ U.heap = h0) (fun _ _ _ _ _ => True) (fun _ U o U' => ∃ v L, o = .returned v ∧ LQ n0 v U'.heap L ∧ FrameEnd U o U' L room_1.cells room_1.slots) := by
  rcases own_n p3 with h | h | h | h
  · exact rm0n0c0 l Z a0 hw ws p0 p1 p2 p3 h0 n0 Z0 h
  · exact rm0n1c0 l Z a0 hw ws p0 p1 p2 p3 h0 n0 Z0 h
  · rcases own_m p3 with q | q
    · exact rm0n2c0 l Z a0 hw ws p0 p1 p2 p3 h0 n0 Z0 h q
    · exact rm0n2c1 l Z a0 hw ws p0 p1 p2 p3 h0 n0 Z0 h q
  · rcases own_m p3 with q | q
    · exact rm0n3c0 l Z a0 hw ws p0 p1 p2 p3 h0 n0 Z0 h q
    · exact rm0n3c1 l Z a0 hw ws p0 p1 p2 p3 h0 n0 Z0 h q
set_option maxRecDepth 65536 in
set_option maxHeartbeats 40000000 in
theorem comes_1 {Post : Tables → Env → Array Value → State → Outcome → State → Prop} (hpost : ∀ tb e args s v u, (limb_1_1.after args s (.returned v) u = true ∧ limb_1_2.after args s (.returned v) u = true ∧ True) → FrameEnd s (.returned v) u (Jvm.fieldLocs frame_1_writes args s ++ Jvm.arrayLocs frame_1_arrays args s ++ Jvm.staticLocs frame_1_statics s) 16 128 → Post tb e args s (.returned v) u) :
    ArmFor flags0 classFile x code maxLocals ret World_1 tables_1 room_1 Calls_1 rest_1 Pre_1 Post := by
  intro l hfl _ _ p e ha hc hk s m args below hf hA hF happ hP
  obtain ⟨hcalls, hrest, hpre⟩ := hP
  obtain ⟨-, -, -, hnamed, -, -, -, hat⟩ := (Spec.applies_iff hf).mp happ
  obtain ⟨hg, hn⟩ := and_e (Cond.before_iff.mp (show (Jvm.Cond.and given_1 narrow_1).before args s = true from hpre))
  obtain ⟨g1, g2⟩ := and_e hg
  obtain ⟨g3, g4⟩ := and_e g2
  obtain ⟨g5, g6⟩ := and_e g4
  obtain ⟨g7, g8⟩ := and_e g6
  obtain ⟨w0, w1, w2, w3, rfl⟩ : ∃ w0 w1 w2 w3 : Value, args = #[w0, w1, w2, w3] := by
    have hs : args.size = 4 := by simpa [Cond.value, given_1] using g1
    obtain ⟨L⟩ := args
    match L, hs with
    | [w0, w1, w2, w3], _ => exact ⟨w0, w1, w2, w3, rfl⟩
  have hw := fun d (hd : d ∈ tables_1) => atoms_spec (ws := Jvm.Cond.code x code maxLocals ret :: tables_1) hat d (List.mem_cons_of_mem _ hd)
  obtain ⟨i0, ei0⟩ := is_v g3
  obtain rfl : w0 = (.int i0) := Option.some.inj ei0
  obtain ⟨i1, ei1⟩ := is_v g5
  obtain rfl : w1 = (.int i1) := Option.some.inj ei1
  obtain ⟨i2, ei2⟩ := is_v g7
  obtain rfl : w2 = (.int i2) := Option.some.inj ei2
  obtain ⟨i3, ei3⟩ := is_v g8
  obtain rfl : w3 = (.int i3) := Option.some.inj ei3
  obtain ⟨n, o, h1, h2, h3, _, L, rfl, ⟨rfl, N⟩, hq⟩ := rm0 l s _ hw tables_1 i0 i1 i2 i3 s.heap s.heap.size (Nat.le_refl _) p e ha hc hk s m _ below hf ((Spec.applies_iff_loose hf).mp happ).1 ⟨rfl, State.Warmed39.refl s, rfl⟩ trivial
  refine ⟨n, _, h1, h2, h3, hpost _ _ _ _ _ _ ⟨Cond.after_iff.mpr rfl, Cond.after_iff.mpr (eq_i res_at (Term.int_eval (1)) rfl), trivial⟩ ⟨hq.1, hq.2.1, (hq.2.2.sift fun y hy => Or.inr (N y hy)).mono (by decide) (by decide)⟩⟩
theorem main_1_1 : Claimed_1_1 := comes_1 fun _ _ _ _ _ _ h hF => ⟨h.1, hF⟩
theorem main_1_2 : Claimed_1_2 := comes_1 fun _ _ _ _ _ _ h hF => ⟨h.2.1, hF⟩
end Jvm.Pilot.@@N@@
namespace Jvm.Pilot.@@N@@
open Jvm Jvm.ClassFile Sem Op Lib Jvm.Free Jvm.Stand Jvm.Pilot.@@N@@.Jvm.D
/-! MADE BY PROGRAM (witnessworld.py) out of the Statement's table words and the real class files: 9 classes; the members and pool entries that the words name. The judged class is class 1, her method 1. -/
namespace start1
open Jvm.ClassFile
def u (s : String) : CpInfo := .utf8 (stringToUtf16 s)
/-- a pool by its gaps: so many unusable entries, then the entry; so many at the end -/
def gap : Nat → List CpInfo → List CpInfo
  | 0, r => r
  | n + 1, r => .unusable :: gap n r
def poolList (es : List (Nat × CpInfo)) (last : Nat) : List CpInfo := es.foldr (fun e r => gap e.1 (e.2 :: r)) (gap last [])
def pool (es : List (Nat × CpInfo)) (last : Nat) : Array CpInfo := ⟨poolList es last⟩
def fileOf (pool : Array CpInfo) (this : Nat) (attrs : Array Attribute := #[]) (ms : Array MethodInfo := #[]) (fl : Nat := 33) (sup : Nat := 0) (ifs : Array Nat := #[]) (fds : Array FieldInfo := #[]) : ClassFile where
  minorVersion := 0
  majorVersion := 65
  constantPool := pool
  accessFlags := fl
  thisClass := this
  superClass := sup
  interfaces := ifs
  fields := fds
  methods := ms
  attributes := attrs
def plain (name : String) (sup : Option ClassId) : Class where
  name := name
  kind := .ordinary
  loader := none
  accessFlags := 33
  super := sup
  interfaces := #[]
  cf := none
  fields := #[]
  methods := #[]
  instanceTypes := #[]
  staticTypes := #[]
  resolved := #[]
  callSites := []
  init := .initialized
  statics := none
  mirror := none

def pool0 : Array CpInfo := pool [(5, u "<init>"), (0, u "()V"), (1, .class_ 10), (1, u "java/lang/Object")] 113

def k0c0 : Code := { maxStack := 0, maxLocals := 1, code := object_method_1_code, exceptionTable := #[], attributes := #[] }
def k0m0 : Method := { name := "<init>", desc := "()V", sig := { parameters := [], returnType := none }, accessFlags := 1, code := some k0c0 }
/-- java/lang/Object -/
def k0 : Class := { plain "java/lang/Object" none with
  accessFlags := 33
  interfaces := #[]
  cf := some (fileOf pool0 8 #[] #[{ accessFlags := 1, nameIndex := 5, descriptorIndex := 6, attributes := #[] }] 33 0 #[] #[])
  fields := #[]
  methods := #[k0m0]
  instanceTypes := #[]
  staticTypes := #[]
  resolved := Array.replicate 124 none
  statics := none }

def pool1 : Array CpInfo := pool [(2, .class_ 4), (1, u "java/lang/Object"), (0, u "<init>"), (0, u "()V"), (0, .class_ 8), (0, u "com/example/faden/faden/rank/RecordReader"), (0, .methodref 7 10), (0, .nameAndType 5 11), (0, u "([B)V"), (0, .methodref 7 13), (0, .nameAndType 14 15), (0, u "atEnd"), (0, u "()Z"), (0, .methodref 7 17), (0, .nameAndType 18 19), (0, u "number"), (0, u "()I"), (0, .class_ 21), (0, u "com/example/faden/faden/rank/RecordReaderAtEndPinLaw"), (2, u "law"), (0, u "(IIII)Z")] 8

def k1m0 : Method := { name := "<init>", desc := "()V", sig := { parameters := [], returnType := none }, accessFlags := 2, code := none }
def k1c1 : Code := { maxStack := 5, maxLocals := 10, code := code, exceptionTable := #[], attributes := #[] }
def k1m1 : Method := { name := "law", desc := "(IIII)Z", sig := { parameters := [.int, .int, .int, .int], returnType := some .boolean }, accessFlags := 9, code := some k1c1 }
/-- com/example/faden/faden/rank/RecordReaderAtEndPinLaw -/
def k1 : Class := { plain "com/example/faden/faden/rank/RecordReaderAtEndPinLaw" (some 0) with
  accessFlags := 49
  interfaces := #[]
  cf := some (fileOf pool1 20 #[] #[{ accessFlags := 2, nameIndex := 5, descriptorIndex := 6, attributes := #[] }, { accessFlags := 9, nameIndex := 24, descriptorIndex := 25, attributes := #[] }] 49 2 #[] #[])
  fields := #[]
  methods := #[k1m0, k1m1]
  instanceTypes := #[]
  staticTypes := #[]
  resolved := Array.replicate 34 none
  statics := none }

def pool2 : Array CpInfo := pool [(1, .methodref 2 3), (0, .class_ 4), (0, .nameAndType 5 6), (0, u "java/lang/Object"), (0, u "<init>"), (0, u "()V"), (0, .fieldref 8 9), (0, .class_ 10), (0, .nameAndType 11 12), (0, u "com/example/faden/faden/rank/RecordReader"), (0, u "record"), (0, u "[B"), (0, .fieldref 8 14), (0, .nameAndType 15 16), (0, u "at"), (0, u "I"), (13, u "number"), (0, u "()I"), (13, u "([B)V"), (2, u "atEnd"), (0, u "()Z")] 6

def k2c0 : Code := { maxStack := 2, maxLocals := 2, code := prog_21_method_1_code, exceptionTable := #[], attributes := #[] }
def k2m0 : Method := { name := "<init>", desc := "([B)V", sig := { parameters := [(.array .byte)], returnType := none }, accessFlags := 0, code := some k2c0 }
def k2c1 : Code := { maxStack := 2, maxLocals := 1, code := prog_21_method_2_code, exceptionTable := #[], attributes := #[] }
def k2m1 : Method := { name := "atEnd", desc := "()Z", sig := { parameters := [], returnType := some .boolean }, accessFlags := 0, code := some k2c1 }
def k2c2 : Code := { maxStack := 5, maxLocals := 4, code := prog_21_method_3_code, exceptionTable := #[], attributes := #[] }
def k2m2 : Method := { name := "number", desc := "()I", sig := { parameters := [], returnType := some .int }, accessFlags := 0, code := some k2c2 }
/-- com/example/faden/faden/rank/RecordReader -/
def k2 : Class := { plain "com/example/faden/faden/rank/RecordReader" (some 0) with
  accessFlags := 48
  interfaces := #[]
  cf := some (fileOf pool2 8 #[] #[{ accessFlags := 0, nameIndex := 5, descriptorIndex := 45, attributes := #[] }, { accessFlags := 0, nameIndex := 48, descriptorIndex := 49, attributes := #[] }, { accessFlags := 0, nameIndex := 30, descriptorIndex := 31, attributes := #[] }] 48 2 #[] #[{ accessFlags := 18, nameIndex := 11, descriptorIndex := 12, attributes := #[] }, { accessFlags := 2, nameIndex := 15, descriptorIndex := 16, attributes := #[] }])
  fields := #[{ name := "record", type := (.array .byte), accessFlags := 18, slot := 0, constantValue := 0 }, { name := "at", type := .int, accessFlags := 2, slot := 1, constantValue := 0 }]
  methods := #[k2m0, k2m1, k2m2]
  instanceTypes := #[(.array .byte), .int]
  staticTypes := #[]
  resolved := Array.replicate 56 none
  statics := none }

def pool3 : Array CpInfo := pool [(1, u "java/lang/Cloneable"), (0, .class_ 1), (0, u "java/lang/Object"), (0, .class_ 3)] 3

/-- java/lang/Cloneable -/
def k3 : Class := { plain "java/lang/Cloneable" (some 0) with
  accessFlags := 1537
  interfaces := #[]
  cf := some (fileOf pool3 2 #[] #[] 1537 4 #[] #[])
  fields := #[]
  methods := #[]
  instanceTypes := #[]
  staticTypes := #[]
  resolved := Array.replicate 8 none
  statics := none }

def pool4 : Array CpInfo := pool [(1, u "java/io/Serializable"), (0, .class_ 1), (0, u "java/lang/Object"), (0, .class_ 3)] 3

/-- java/io/Serializable -/
def k4 : Class := { plain "java/io/Serializable" (some 0) with
  accessFlags := 1537
  interfaces := #[]
  cf := some (fileOf pool4 2 #[] #[] 1537 4 #[] #[])
  fields := #[]
  methods := #[]
  instanceTypes := #[]
  staticTypes := #[]
  resolved := Array.replicate 8 none
  statics := none }

/-- the primitive byte -/
def k5 : Class := { plain "byte" none with kind := .primitive 'B', accessFlags := 0x411 }
/-- [B -/
def k6 : Class := { plain "[B" (some 0) with kind := .array 5 .byte, interfaces := #[3, 4], accessFlags := 1041 }

/-- the primitive int -/
def k7 : Class := { plain "int" none with kind := .primitive 'I', accessFlags := 0x411 }
/-- [I -/
def k8 : Class := { plain "[I" (some 0) with kind := .array 7 .int, interfaces := #[3, 4], accessFlags := 1041 }

def heap : Heap := #[]
def classes : Array Class := #[k0, k1, k2, k3, k4, k5, k6, k7, k8]
def interned : List (Array UInt16 × Addr) := []
def slotsUsed : Nat := 0
def theMethod : MethodId := ⟨1, 1⟩
def args0 : Array Value := #[.int 5, .int 6, .int 7, .int 8]
def aboutOver (below : List Frame) : State where
  vm := { classes := classes, interned := interned.toArray }
  heap := heap
  slotsUsed := slotsUsed
  threads := #[{ frames := .invoking theMethod args0 :: below }]
def below0 : List Frame := [.native { method := ⟨0, 0⟩, args := #[] }]
def about1 : State := aboutOver below0
def p0 : Program := .bare "" "" ""
def e0 : Env := launch0.env 0 0 0
theorem w_frames : about1.frames = Frame.invoking theMethod args0 :: below0 := rfl
set_option maxRecDepth 65536 in
theorem w_args : argsFit about1.vm theMethod args0 = true := by decide +kernel
set_option maxRecDepth 65536 in
theorem w_heap : heapFits about1 = true := by decide +kernel
set_option maxRecDepth 65536 in
theorem w_runnable : about1.curStatus? = some .runnable := by decide +kernel
set_option maxRecDepth 65536 in
theorem w_alone : about1.alone = true := by decide +kernel
set_option maxRecDepth 65536 in
theorem w_named : about1.methodNamed? x = some theMethod := by decide +kernel
set_option maxRecDepth 65536 in
theorem w_hears : about1.hears theMethod below0 = true := by decide +kernel
set_option maxRecDepth 65536 in
theorem w_ripe : about1.ripe theMethod args0 below0 = true := by decide +kernel
theorem w_running : about1.status = .running := rfl
set_option maxRecDepth 65536 in
theorem w_room : about1.hasRoom e0.platform room_1 = true :=
  launch0.hasRoom_least _ room_1 (by decide +kernel) (by decide +kernel) (by decide +kernel) (by decide +kernel) (by decide +kernel) (by decide +kernel)
theorem allAtoms_all (ts : List Jvm.Cond) (a : Array Jvm.Value) (st : Jvm.State) : (allAtoms ts).before a st = ts.all (fun c => c.before a st) := by
  induction ts with
  | nil => rfl
  | cons c t ih =>
    show (Jvm.Cond.and c (allAtoms t)).before a st = _
    rw [Jvm.Cond.before_and, ih, List.all_cons]
def words1 : List Jvm.Cond := Jvm.Cond.code x code maxLocals ret :: tables_1
/-- a 'code' word, met by the world's own term for the bytes: nothing is compared byte by byte -/
theorem code_word {y : MethodName} {bytes : ByteArray} {mx : Nat} {rt : Option FieldType} {a : Array Value} {s : State} {m : MethodId} {meth : Method} {c : Code} (h1 : s.methodNamed? y = some m) (h2 : s.vm.method? m = some meth) (h3 : meth.code = some c) (h4 : c.code = bytes)
    (h5 : (c.maxLocals == mx && c.exceptionTable.isEmpty && decide (c.maxStack ≤ mostOperands) && decide (meth.sig.returnType = rt) && !meth.locks && decide (parseMethodDescriptor y.desc = some meth.sig)) = true) : (Jvm.Cond.code y bytes mx rt).before a s = true := by
  simp only [Bool.and_eq_true, beq_iff_eq, Bool.not_eq_true', decide_eq_true_eq] at h5
  obtain ⟨⟨⟨⟨⟨g1, g2⟩, g3⟩, g4⟩, g5⟩, g6⟩ := h5
  simp [Cond.before, Cond.holds, Cond.value, h1, h2, h3, h4, g1, g2, g3, g4, g5, g6]
def isCode : Jvm.Cond → Bool
  | .code _ _ _ _ => true
  | _ => false
theorem all_split {L : List Jvm.Cond} {P : Jvm.Cond → Bool} (h1 : L.all (fun c => isCode c || P c) = true) (h2 : ∀ c ∈ L.filter isCode, P c = true) : L.all P = true := by
  refine List.all_eq_true.mpr fun c hc => ?_
  have h := List.all_eq_true.mp h1 c hc
  rcases Bool.eq_false_or_eq_true (isCode c) with hi | hi
  · exact h2 c (List.mem_filter.mpr ⟨hc, hi⟩)
  · simpa [hi] using h
set_option maxRecDepth 65536 in
theorem w_c0 : (Jvm.Cond.code x code maxLocals ret).before args0 about1 = true := code_word (m := ⟨1, 1⟩) (meth := k1m1) (c := k1c1) (by decide +kernel) rfl rfl rfl (by decide +kernel)
set_option maxRecDepth 65536 in
theorem w_c1 : (Jvm.Cond.code ({ cls := "com/example/faden/faden/rank/RecordReader", name := "<init>", desc := "([B)V" } : Jvm.MethodName) prog_21_method_1_code (2 : Nat) (Option.none : Option Jvm.ClassFile.FieldType)).before args0 about1 = true := code_word (m := ⟨2, 0⟩) (meth := k2m0) (c := k2c0) (by decide +kernel) rfl rfl rfl (by decide +kernel)
set_option maxRecDepth 65536 in
theorem w_c2 : (Jvm.Cond.code ({ cls := "java/lang/Object", name := "<init>", desc := "()V" } : Jvm.MethodName) object_method_1_code (1 : Nat) (Option.none : Option Jvm.ClassFile.FieldType)).before args0 about1 = true := code_word (m := ⟨0, 0⟩) (meth := k0m0) (c := k0c0) (by decide +kernel) rfl rfl rfl (by decide +kernel)
set_option maxRecDepth 65536 in
theorem w_c3 : (Jvm.Cond.code ({ cls := "com/example/faden/faden/rank/RecordReader", name := "atEnd", desc := "()Z" } : Jvm.MethodName) prog_21_method_2_code (1 : Nat) (Option.some Jvm.ClassFile.FieldType.boolean)).before args0 about1 = true := code_word (m := ⟨2, 1⟩) (meth := k2m1) (c := k2c1) (by decide +kernel) rfl rfl rfl (by decide +kernel)
set_option maxRecDepth 65536 in
theorem w_c4 : (Jvm.Cond.code ({ cls := "com/example/faden/faden/rank/RecordReader", name := "number", desc := "()I" } : Jvm.MethodName) prog_21_method_3_code (4 : Nat) (Option.some Jvm.ClassFile.FieldType.int)).before args0 about1 = true := code_word (m := ⟨2, 2⟩) (meth := k2m2) (c := k2c2) (by decide +kernel) rfl rfl rfl (by decide +kernel)
def codes1 : List Jvm.Cond := [Jvm.Cond.code x code maxLocals ret, Jvm.Cond.code ({ cls := "com/example/faden/faden/rank/RecordReader", name := "<init>", desc := "([B)V" } : Jvm.MethodName) prog_21_method_1_code (2 : Nat) (Option.none : Option Jvm.ClassFile.FieldType), Jvm.Cond.code ({ cls := "java/lang/Object", name := "<init>", desc := "()V" } : Jvm.MethodName) object_method_1_code (1 : Nat) (Option.none : Option Jvm.ClassFile.FieldType), Jvm.Cond.code ({ cls := "com/example/faden/faden/rank/RecordReader", name := "atEnd", desc := "()Z" } : Jvm.MethodName) prog_21_method_2_code (1 : Nat) (Option.some Jvm.ClassFile.FieldType.boolean), Jvm.Cond.code ({ cls := "com/example/faden/faden/rank/RecordReader", name := "number", desc := "()I" } : Jvm.MethodName) prog_21_method_3_code (4 : Nat) (Option.some Jvm.ClassFile.FieldType.int)]
set_option maxRecDepth 65536 in
theorem codes_eq : words1.filter isCode = codes1 := rfl
theorem w_codes : ∀ c ∈ words1.filter isCode, c.before args0 about1 = true := by
  rw [codes_eq]
  intro c hc
  simp only [codes1, List.mem_cons, List.not_mem_nil, or_false] at hc
  rcases hc with rfl | rfl | rfl | rfl | rfl
  · exact w_c0
  · exact w_c1
  · exact w_c2
  · exact w_c3
  · exact w_c4
set_option maxRecDepth 65536 in
theorem w_t1 : (words1.take 24).all (fun c => isCode c || c.before args0 about1) = true := by decide +kernel
set_option maxRecDepth 65536 in
theorem w_t2 : (words1.drop 24).all (fun c => isCode c || c.before args0 about1) = true := by decide +kernel
theorem w_tables : (allAtoms (Jvm.Cond.code x code maxLocals ret :: tables_1)).before args0 about1 = true := by
  rw [allAtoms_all]
  show words1.all (fun c => c.before args0 about1) = true
  refine all_split ?_ w_codes
  rw [← List.take_append_drop 24 words1, List.all_append, w_t1, w_t2]
  rfl
set_option maxRecDepth 65536 in
theorem w_case : (Jvm.Cond.and given_1 narrow_1).before args0 about1 = true := by decide +kernel
theorem w_applies : (headSpec (Jvm.Cond.code x code maxLocals ret :: tables_1) room_1).applies x e0.platform about1 = true :=
  (Spec.applies_iff w_frames).mpr ⟨w_running, w_runnable, w_alone, w_named, w_hears, w_ripe, w_room, w_tables⟩
theorem atStart : AtStart classFile x code maxLocals ret World_1 tables_1 room_1 Calls_1 rest_1 Pre_1 launch0 p0 e0 about1 theMethod args0 below0 :=
  ⟨lists_1, trivial, launch0.admits_env _ _ _, launch0.least_env, fairChoices_fair.cas, fairChoices_fair.clock, w_frames, w_args, w_heap, w_applies, trivial, trivial, w_case⟩
end start1
theorem witness_1 : WitnessClaimed_1 := ⟨start1.p0, start1.e0, start1.about1, start1.theMethod, start1.args0, start1.below0, start1.atStart⟩
end Jvm.Pilot.@@N@@
